/-
  The second card: FnParseSeqOrderFollowsNumerals.
-/
import Derived.Test.Qxb6614506aDoorW2
import Derived.Test.Qxb6614506aDoorLaid
import Derived.Test.Qxb6614506aDoorTie
import Derived.Test.Qxb6614506aDoorCards
import Derived.ProofKit
import Derived.ShutString
import Derived.OpenShut
import Derived.WalkSmall
import Derived.SevenTiedAt
namespace Go.Proofs.Qxb6614506aDoor
open Go.ChangeShapes Go.WideShapes Go.ChangeAt Go.RowKit
open Go.ChangeMaps (open_string shut_string)

theorem says2_some {T0 : TypeId} {p0 e1 e2 : Value} {s : ByteArray} {n : Nat} {a : Int} (hs : s.size ≤ 281474976710656) (h : Plain.parseL s.data.toList = some n) (ha : a = n) : Says2 T0 p0 e1 e2 s a .nilIface true :=
  ⟨by subst ha; exact fun W _ => seq_some s hs n h W, fun W => fits_yes s a n ha W hs h⟩
theorem says2_none {T0 : TypeId} {p0 e1 e2 : Value} {s : ByteArray} (hs : s.size ≤ 281474976710656) (h : Plain.parseL s.data.toList = none) : Says2 T0 p0 e1 e2 s 0 (.iface T0 p0) false :=
  ⟨fun W hv => seq_none s hs h T0 p0 e1 e2 W hv, fun W => fits_no s W hs h⟩

/-- The walk, whatever the input. -/
theorem walk2 (s t : ByteArray) (w : World) (hs : s.size ≤ maxLen) (ht : t.size ≤ maxLen) (T0 : TypeId) (p0 e1 e2 : Value) (hv : Vars w T0 p0 e1 e2) :
    Calls Tryd.prog 4 #[.string s, .string t] w fun e w' => e = .returned (.bool true) ∧ Below w.heap.size w w' := by
  by_cases hbig : 1048576 < s.size + t.size
  · exact w2_long s t w hs ht hbig
  have hl : s.size + t.size ≤ 1048576 := by omega
  have hs2 : s.size ≤ 281474976710656 := by omega
  have ht2 : t.size ≤ 281474976710656 := by omega
  cases ha : Plain.parseL s.data.toList with
  | none =>
    cases hb : Plain.parseL t.data.toList with
    | none => exact w2_no1 s t w hl T0 p0 e1 e2 hv 0 _ _ (.inr ⟨rfl, rfl⟩) (says2_none hs2 ha) (says2_none ht2 hb)
    | some n => exact w2_no1 s t w hl T0 p0 e1 e2 hv n _ _ (.inl ⟨rfl, rfl⟩) (says2_none hs2 ha) (says2_some ht2 hb rfl)
  | some m =>
    cases hb : Plain.parseL t.data.toList with
    | none => exact w2_no2 s t w hl T0 p0 e1 e2 hv m (says2_some hs2 ha rfl) (says2_none ht2 hb)
    | some n =>
      obtain ⟨d1, z1, _, _, _, _, _, v1⟩ := Plain.fits_some _ m ha
      obtain ⟨d2, z2, _, _, _, _, _, v2⟩ := Plain.fits_some _ n hb
      have hc := Plain.cmpN_val _ _ d1 d2 z1 z2
      rw [v1, v2] at hc
      exact w2_yes s t w hl T0 p0 e1 e2 hv m n m n rfl rfl (says2_some hs2 ha rfl) (says2_some ht2 hb rfl) hc

set_option maxRecDepth 100000 in
theorem lifted2 (os : Os) (started : os.Started) (H : Type) (enc : TypeId × Value → H) :
    ReturnsInHanded {} Tryd.checked os 4 .any (fun w args => (Rows.fnParseSeqOrderFollowsNumeralsSpec.pre enc Tryd.prog Tryd.f4 [] false w args ∧ laidMetH Tryd.prog Rows.fnParseSeqOrderFollowsNumeralsRow.laid w) ∧ sizedMet enc Tryd.prog Tryd.f4 (OpenSpec.ofChange Rows.fnParseSeqOrderFollowsNumeralsSpec) false w args)
      (Rows.fnParseSeqOrderFollowsNumeralsSpec.post enc Tryd.prog Tryd.f4 false true false false) := by
  refine returnsInHanded_of_change_and (C := Tryd.checked) (X := fun w _ => laidMetH Tryd.prog Rows.fnParseSeqOrderFollowsNumeralsRow.laid w) (fun _ _ _ hh h => h.of_heap hh) own started (by kernel_rfl) Tryd.func4
    (ChangeSpec.witness_shaped (enc := enc) (C := Tryd.checked) (os := os) (X := fun w _ => laidMetH Tryd.prog Rows.fnParseSeqOrderFollowsNumeralsRow.laid w) false (World.doorLaid Tryd.prog 81 os) #[.string ByteArray.empty, .string ByteArray.empty] 8 rfl (World.shaped_of_RefB (by kernel_rfl) (by kernel_rfl)) (by kernel_rfl) (by kernel_rfl) (by kernel_rfl) (door_met os _)) ?_
  intro W base args ds gs before hval0 hW _ _ hL _
  have hval : ∀ (j : Nat) t v, Tryd.f4.params[j]? = some t → args[j]? = some v → Value.okWide Tryd.prog W .any base t v := hval0
  have hW' := hW
  obtain ⟨p, q, hA0, hV0, rfl, hfz, hnd⟩ := hW
  have hA : DataW.TrodAll enc Tryd.prog W 0 (fun _ => true) true Tryd.f4.params.toList args.toList ds p := hA0
  have hV : DataW.TrodVars enc Tryd.prog W (fun _ => true) [Rows.fnParseSeqOrderFollowsNumeralsSpec.vars.headD default] gs q := hV0
  rw [Tryd.params4] at hA hval
  obtain ⟨v0, v1, d0, d1, p0, p1, rfl, rfl, rfl, h0, h1⟩ := trodAll_two hA
  obtain ⟨s, rfl, rfl, rfl, ws⟩ := open_string Tryd.underlying9 (hval 0 9 v0 rfl rfl) h0
  obtain ⟨t, rfl, rfl, rfl, wt⟩ := open_string Tryd.underlying9 (hval 1 9 v1 rfl rfl) h1
  obtain ⟨a0, e1, e2, hv0, hvs⟩ := of_laid hL
  obtain ⟨rfl, rfl⟩ := hV.unique (vars_read1 enc g0 ty0 Tryd.underlying26 hv0 trivial _)
  clear hA0 hV0 hval0
  refine (walk2 s t W ws wt 49 (.pointer (some a0)) e1 e2 hvs).mono fun e W' ⟨he, bel⟩ => ?_
  subst he
  have hlt : 0 < W.heap.size := Lib.lt_of_cell hvs.c0
  exact ⟨_, rfl, _, _, _, [], [], [.cell 0 0], hW', trodAll_mk1 (shut_bool Tryd.underlying4 _), trodAll_mk2 (shut_string Tryd.underlying9 ws) (shut_string Tryd.underlying9 wt), vars_read1 enc g0 ty0 Tryd.underlying26 (var?_below bel g0 hlt hv0) trivial _, bel.frame _, fun h => by cases h⟩

theorem row2 : Rows.FnParseSeqOrderFollowsNumeralsSaid :=
  OpenClaim.holds_of_wide 4 Tryd.f4 rfl rfl rfl rfl rfl rfl rfl ⟨rfl, rfl, rfl, rfl, rfl⟩ rfl rfl rfl rfl rfl (by kernel_rfl) Tryd.func4 (by kernel_rfl)
    (of_decide_eq_true (by kernel_rfl)) (by unfold Func.isWrapper; first | (rw [if_pos (by decide +kernel)]; kernel_rfl) | (rw [if_neg (by decide +kernel)]; exact ⟨rfl, rfl⟩))
    (fun os started H enc _ => lifted2 os started H enc)

/-- THE STATEMENT: the tied card. -/
theorem proved2 : Rows.FnParseSeqOrderFollowsNumeralsCardSaid :=
  Claim7.holds_tied_plain_at .later [] [.data, .data, .data, .sentinel, .sentinel, .sentinel] true (true, "410e83cb67b9b36c402a2015e9b505aadde1bf630cb6ec7e62b9800fbd984d16") true
    row2 (fun _ h => by cases h) (by kernel_rfl) (fun _ h => by cases h) fnParseSeqOrderFollowsNumerals_row_tie rfl ⟨rfl, rfl⟩ (by kernel_rfl) rfl
    (fun f fn hf hfn => by
      obtain rfl : f = 4 := Option.some.inj ((show Tryd.prog.funcNamed Tryd.f4.name = some 4 by kernel_rfl).symm.trans hf) |>.symm
      obtain rfl : fn = Tryd.f4 := (Option.some.inj (Tryd.func4.symm.trans hfn)).symm
      exact ⟨by kernel_rfl, fun j t ht => by
        rw [Tryd.params4] at ht
        have hm : t ∈ [9, 9] := by simpa using Array.mem_of_getElem? ht
        have hall : ([9, 9].all fun u => !Tryd.prog.wantsStandIn u) = true := by kernel_rfl
        exact (show Tryd.prog.wantsStandIn t = false by simpa using List.all_eq_true.1 hall t hm)⟩)
    (by kernel_rfl)
end Go.Proofs.Qxb6614506aDoor
