/-
  The first card: FnParseSeqAppendOneByte.
-/
import Derived.Test.Qxb6614506aDoorW1
import Derived.Test.Qxb6614506aDoorLaid
import Derived.Test.Qxb6614506aDoorTie
import Derived.Test.Qxb6614506aDoorCards
import Derived.ProofKit
import Derived.ShutString
import Derived.OpenShut
import Derived.WalkSmall
import Derived.SevenTiedAt
namespace Go.Proofs.Qxb6614506aDoor
open Go.ChangeShapes Go.WideShapes Go.ChangeAt Go.RowKit
open Go.ChangeMaps (open_string shut_string)

theorem says_some {T0 : TypeId} {p0 e1 e2 : Value} {s : ByteArray} {n : Nat} {a : Int} (hs : s.size ≤ 281474976710656) (h : Plain.parseL s.data.toList = some n) (ha : a = n) : Says T0 p0 e1 e2 s a .nilIface := by
  subst ha
  exact fun W _ => seq_some s hs n h W
theorem says_none {T0 : TypeId} {p0 e1 e2 : Value} {s : ByteArray} (hs : s.size ≤ 281474976710656) (h : Plain.parseL s.data.toList = none) : Says T0 p0 e1 e2 s 0 (.iface T0 p0) :=
  fun W hv => seq_none s hs h T0 p0 e1 e2 W hv

/-- The walk, whatever the input. -/
theorem walk1 (s : ByteArray) (c : UInt8) (w : World) (hs : s.size ≤ maxLen) (T0 : TypeId) (p0 e1 e2 : Value) (hv : Vars w T0 p0 e1 e2) :
    Calls Tryd.prog 3 #[.string s, .int .u8 c.toNat] w fun e w' => e = .returned (.bool true) ∧ Below w.heap.size w w' := by
  by_cases hbig : 1048576 < s.size
  · exact w1_long s _ w hs hbig
  have hs1 : s.size ≤ 1048576 := by omega
  have hs2 : s.size ≤ 281474976710656 := by omega
  have ht2 : (s ++ ⟨#[c]⟩).size ≤ 281474976710656 := by
    have : (s ++ (⟨#[c]⟩ : ByteArray)).size = s.size + 1 := by rw [ByteArray.size_append]; rfl
    omega
  have et : (s ++ ⟨#[c]⟩ : ByteArray).data.toList = s.data.toList ++ [c] := by simp
  have hmx := Plain.mx_def
  by_cases hd : Plain.allDig s.data.toList = true
  · by_cases hc : Plain.digB c = true
    · obtain ⟨c0, c1⟩ := (Plain.digB_iff c).1 hc
      by_cases hz : Plain.allZer s.data.toList = true
      · have hn : Plain.parseL s.data.toList = none := by
          cases hp : Plain.parseL s.data.toList with
          | none => rfl
          | some n => have := (Plain.l1_ok hp).2.1; rw [hz] at this; cases this
        have ht := Plain.l1_zeros s.data.toList c hd hc hz
        rw [← et] at ht
        by_cases h0 : c.toNat - 48 = 0
        · rw [if_pos h0] at ht
          exact w1_d s c w hs1 T0 p0 e1 e2 hv 0 0 (says_none hs2 hn) (says_none ht2 ht) rfl rfl hd hz (by omega) (by omega)
        · rw [if_neg h0] at ht
          exact w1_e s c w hs1 T0 p0 e1 e2 hv 0 ((c.toNat : Int) - 48) (says_none hs2 hn) (says_some ht2 ht (by omega)) rfl rfl hd hz (by omega) (by omega)
      · have hz : Plain.allZer s.data.toList = false := by simpa using hz
        cases hp : Plain.parseL s.data.toList with
        | none =>
          have ht := Plain.l1_more s.data.toList c hd hz hp
          rw [← et] at ht
          exact w1_f s c w hs1 T0 p0 e1 e2 hv 0 0 (says_none hs2 hp) (says_none ht2 ht) rfl rfl hd hz (by omega) (by omega)
        | some n =>
          have ho := Plain.l1_ok hp
          have ht := Plain.l1_step s.data.toList c n hc hp
          rw [← et] at ht
          by_cases hle : n * 10 + (c.toNat - 48) ≤ Plain.mx
          · rw [if_pos hle] at ht
            exact w1_g s c w hs1 T0 p0 e1 e2 hv n (n * 10 + ((c.toNat : Int) - 48)) (says_some hs2 hp rfl) (says_some ht2 ht (by omega)) (by omega) (by omega) rfl hd hz (by omega) (by omega) (by omega)
          · rw [if_neg hle] at ht
            exact w1_h s c w hs1 T0 p0 e1 e2 hv n 0 (says_some hs2 hp rfl) (says_none ht2 ht) (by omega) (by omega) rfl hd hz (by omega) (by omega) (by omega)
    · have hc' : Plain.digB c = false := by simpa using hc
      have ht := Plain.l1_bad s.data.toList c (.inl hc')
      rw [← et] at ht
      have hcc : (c.toNat : Int) < 48 ∨ 57 < (c.toNat : Int) := by
        have := mt (Plain.digB_iff c).2 hc
        omega
      cases hp : Plain.parseL s.data.toList with
      | none =>
        rcases hcc with hcc | hcc
        · exact w1_b1 s c w hs1 T0 p0 e1 e2 hv 0 0 (says_none hs2 hp) (says_none ht2 ht) rfl rfl hcc
        · exact w1_b2 s c w hs1 T0 p0 e1 e2 hv 0 0 (says_none hs2 hp) (says_none ht2 ht) rfl rfl hcc
      | some n =>
        have ho := Plain.l1_ok hp
        rcases hcc with hcc | hcc
        · exact w1_c1 s c w hs1 T0 p0 e1 e2 hv n 0 (says_some hs2 hp rfl) (says_none ht2 ht) (by omega) (by omega) rfl hd ho.2.1 hcc
        · exact w1_c2 s c w hs1 T0 p0 e1 e2 hv n 0 (says_some hs2 hp rfl) (says_none ht2 ht) (by omega) (by omega) rfl hd ho.2.1 hcc
  · have hd' : Plain.allDig s.data.toList = false := by simpa using hd
    have ht := Plain.l1_bad s.data.toList c (.inr hd')
    rw [← et] at ht
    have hn : Plain.parseL s.data.toList = none := by
      cases hp : Plain.parseL s.data.toList with
      | none => rfl
      | some n => exact absurd (Plain.l1_ok hp).1 hd
    exact w1_a s c w hs1 T0 p0 e1 e2 hv 0 0 (says_none hs2 hn) (says_none ht2 ht) rfl rfl hd'

set_option maxRecDepth 100000 in
theorem lifted1 (os : Os) (started : os.Started) (H : Type) (enc : TypeId × Value → H) :
    ReturnsInHanded {} Tryd.checked os 3 .any (fun w args => (Rows.fnParseSeqAppendOneByteSpec.pre enc Tryd.prog Tryd.f3 [] false w args ∧ laidMetH Tryd.prog Rows.fnParseSeqAppendOneByteRow.laid w) ∧ sizedMet enc Tryd.prog Tryd.f3 (OpenSpec.ofChange Rows.fnParseSeqAppendOneByteSpec) false w args)
      (Rows.fnParseSeqAppendOneByteSpec.post enc Tryd.prog Tryd.f3 false true false false) := by
  refine returnsInHanded_of_change_and (C := Tryd.checked) (X := fun w _ => laidMetH Tryd.prog Rows.fnParseSeqAppendOneByteRow.laid w) (fun _ _ _ hh h => h.of_heap hh) own started (by kernel_rfl) Tryd.func3
    (ChangeSpec.witness_shaped (enc := enc) (C := Tryd.checked) (os := os) (X := fun w _ => laidMetH Tryd.prog Rows.fnParseSeqAppendOneByteRow.laid w) false (World.doorLaid Tryd.prog 81 os) #[.string ByteArray.empty, .int .u8 0] 8 rfl (World.shaped_of_RefB (by kernel_rfl) (by kernel_rfl)) (by kernel_rfl) (by kernel_rfl) (by kernel_rfl) (door_met os _)) ?_
  intro W base args ds gs before hval0 hW _ _ hL _
  have hval : ∀ (j : Nat) t v, Tryd.f3.params[j]? = some t → args[j]? = some v → Value.okWide Tryd.prog W .any base t v := hval0
  have hW' := hW
  obtain ⟨p, q, hA0, hV0, rfl, hfz, hnd⟩ := hW
  have hA : DataW.TrodAll enc Tryd.prog W 0 (fun _ => true) true Tryd.f3.params.toList args.toList ds p := hA0
  have hV : DataW.TrodVars enc Tryd.prog W (fun _ => true) [Rows.fnParseSeqAppendOneByteSpec.vars.headD default] gs q := hV0
  rw [Tryd.params3] at hA hval
  obtain ⟨v0, v1, d0, d1, p0, p1, rfl, rfl, rfl, h0, h1⟩ := trodAll_two hA
  obtain ⟨s, rfl, rfl, rfl, ws⟩ := open_string Tryd.underlying9 (hval 0 9 v0 rfl rfl) h0
  obtain ⟨c, rfl, rfl, rfl, wc⟩ := open_int Tryd.underlying5 (hval 1 5 v1 rfl rfl) h1
  obtain ⟨a0, e1, e2, hv0, hvs⟩ := of_laid hL
  obtain ⟨rfl, rfl⟩ := hV.unique (vars_read1 enc g0 ty0 Tryd.underlying26 hv0 trivial _)
  clear hA0 hV0 hval0
  have hc := bounds_u8 wc
  obtain ⟨c8, rfl⟩ : ∃ c8 : UInt8, c = (c8.toNat : Int) := ⟨UInt8.ofNat c.toNat, by rw [UInt8.toNat_ofNat']; omega⟩
  refine (walk1 s c8 W ws 49 (.pointer (some a0)) e1 e2 hvs).mono fun e W' ⟨he, bel⟩ => ?_
  subst he
  have hlt : 0 < W.heap.size := Lib.lt_of_cell hvs.c0
  exact ⟨_, rfl, _, _, _, [], [], [.cell 0 0], hW', trodAll_mk1 (shut_bool Tryd.underlying4 _), trodAll_mk2 (shut_string Tryd.underlying9 ws) (shut_int Tryd.underlying5 wc), vars_read1 enc g0 ty0 Tryd.underlying26 (var?_below bel g0 hlt hv0) trivial _, bel.frame _, fun h => by cases h⟩

theorem row1 : Rows.FnParseSeqAppendOneByteSaid :=
  OpenClaim.holds_of_wide 3 Tryd.f3 rfl rfl rfl rfl rfl rfl rfl ⟨rfl, rfl, rfl, rfl, rfl⟩ rfl rfl rfl rfl rfl (by kernel_rfl) Tryd.func3 (by kernel_rfl)
    (of_decide_eq_true (by kernel_rfl)) (by unfold Func.isWrapper; first | (rw [if_pos (by decide +kernel)]; kernel_rfl) | (rw [if_neg (by decide +kernel)]; exact ⟨rfl, rfl⟩))
    (fun os started H enc _ => lifted1 os started H enc)

/-- THE STATEMENT: the tied card. -/
theorem proved1 : Rows.FnParseSeqAppendOneByteCardSaid :=
  Claim7.holds_tied_plain_at .later [] [.data, .data, .data, .sentinel, .sentinel, .sentinel] true (true, "410e83cb67b9b36c402a2015e9b505aadde1bf630cb6ec7e62b9800fbd984d16") true
    row1 (fun _ h => by cases h) (by kernel_rfl) (fun _ h => by cases h) fnParseSeqAppendOneByte_row_tie rfl ⟨rfl, rfl⟩ (by kernel_rfl) rfl
    (fun f fn hf hfn => by
      obtain rfl : f = 3 := Option.some.inj ((show Tryd.prog.funcNamed Tryd.f3.name = some 3 by kernel_rfl).symm.trans hf) |>.symm
      obtain rfl : fn = Tryd.f3 := (Option.some.inj (Tryd.func3.symm.trans hfn)).symm
      exact ⟨by kernel_rfl, fun j t ht => by
        rw [Tryd.params3] at ht
        have hm : t ∈ [9, 5] := by simpa using Array.mem_of_getElem? ht
        have hall : ([9, 5].all fun u => !Tryd.prog.wantsStandIn u) = true := by kernel_rfl
        exact (show Tryd.prog.wantsStandIn t = false by simpa using List.all_eq_true.1 hall t hm)⟩)
    (by kernel_rfl)
end Go.Proofs.Qxb6614506aDoor
