/-
  FnNoteKeyForYAMLKeepsALineBreakAsTheColonMovesOn: the row, proved (the frame by the tool of the guide).
-/
import Derived.Test.Qxb6615701aRows
import Derived.Test.Qxb6615701aL4a
import Derived.Test.Qxb6615701aL4b
import Derived.Test.Qxb6615701aL4c
import Derived.Test.Qxb6615701aL4d
import Derived.Test.Qxb6615701aL4n
import Derived.WalkKit
import Derived.ProofKit
import Derived.OpenShut
import Derived.ShutString
import Derived.ChangeOld
import Derived.Below
namespace Go.Proofs.Qxb6615701a.fnNoteKeyForYAMLKeepsALineBreakAsTheColonMovesOn
open Go.ChangeShapes Go.WideShapes Go.ChangeAt Go.RowKit
open Go.ChangeMaps (open_string shut_string)
set_option linter.unusedVariables false

theorem own : ownKnob Try.prog.godebug = none := by kernel_rfl
theorem laidOut : laidOutB Try.prog = true := by kernel_rfl

theorem br_span {l : List UInt8} {k m c : Nat} (hmc : m ≤ c) (h : Plain.hasBr (span l k m) = true) : Plain.hasBr (span l k c) = true := by
  have e : span l k m = (span l k c).take (m - k) := by
    unfold span
    rw [List.take_take, Nat.min_eq_left (by omega)]
  rw [e] at h
  unfold Plain.hasBr at h ⊢
  rw [List.any_eq_true] at h ⊢
  obtain ⟨x, hx, hb⟩ := h
  exact ⟨x, List.mem_of_mem_take hx, hb⟩

theorem note_br {l : List UInt8} (h : Plain.hasBr l = true) : noteOf l = some later := by rw [noteOf, if_pos h]
theorem note_no {l : List UInt8} (h : Plain.hasBr l = false) : (noteOf l = none ∧ Plain.rc l 0 ≤ 1024) ∨ (noteOf l = some longK ∧ 1024 < Plain.rc l 0) := by
  by_cases h2 : 1024 < Plain.rc l 0
  · exact .inr ⟨by rw [noteOf, if_neg (by rw [h]; decide), if_pos h2], h2⟩
  · exact .inl ⟨by rw [noteOf, if_neg (by rw [h]; decide), if_neg h2], by omega⟩

theorem main (x : Addr) (l : List UInt8) (cap k m c : Nat) (hcap : l.length ≤ cap) (hn : l.length ≤ 1048576) (hkm : k ≤ m) (hmc : m ≤ c) (hc : c ≤ l.length) (w : World) (hsrc : Src w x l) :
    Calls Try.prog 4 #[.slice (some x) l.length cap, .int .i64 k, .int .i64 m, .int .i64 c] w fun e w' => e = .returned (.bool true) ∧ Below w.heap.size w w' := by
  have hl := span_len l k c hc
  have hrb := Plain.rc_bounds (span l k c)
  cases hb : Plain.hasBr (span l k c)
  · have hb1 : Plain.hasBr (span l k m) = false := by
      cases h : Plain.hasBr (span l k m)
      · rfl
      · rw [br_span hmc h] at hb; cases hb
    rcases note_no hb1 with ⟨o1, _⟩ | ⟨o1, r1⟩
    · rcases note_no hb with ⟨o2, r2⟩ | ⟨o2, r2⟩
      · by_cases h0 : c - k = 0
        · by_cases hlk : l.length = k
          · exact l4_NNy x l cap k m c hcap hn hkm hmc hc w hsrc o1 o2 hb h0 hlk
          · exact l4_NNz x l cap k m c hcap hn hkm hmc hc w hsrc o1 o2 hb h0 hlk
        · by_cases h1 : c - k ≤ 1024
          · exact l4_NNs x l cap k m c hcap hn hkm hmc hc w hsrc o1 o2 hb h1 (by omega)
          · exact l4_NNm x l cap k m c hcap hn hkm hmc hc w hsrc o1 o2 hb (by omega) (by omega)
      · by_cases h1 : c - k ≤ 4096
        · exact l4_NKm x l cap k m c hcap hn hkm hmc hc w hsrc o1 o2 hb (by omega) h1
        · exact l4_NKb x l cap k m c hcap hn hkm hmc hc w hsrc o1 o2 hb (by omega)
    · have hpos : k < c := by
        have h1 := (Plain.rc_bounds (span l k m)).1
        have h2 := span_len l k m (by omega)
        omega
      rcases note_no hb with ⟨o2, r2⟩ | ⟨o2, r2⟩
      · by_cases h1 : c - k ≤ 1024
        · exact l4_KNs x l cap k m c hcap hn hkm hmc hc w hsrc o1 o2 hb h1 hpos
        · exact l4_KNm x l cap k m c hcap hn hkm hmc hc w hsrc o1 o2 hb (by omega) (by omega)
      · by_cases h1 : c - k ≤ 4096
        · exact l4_KKm x l cap k m c hcap hn hkm hmc hc w hsrc o1 o2 hb (by omega) h1
        · exact l4_KKb x l cap k m c hcap hn hkm hmc hc w hsrc o1 o2 hb (by omega)
  · have hpos : k < c := by
      rcases Nat.lt_or_ge k c with h | h
      · exact h
      · have : span l k c = [] := List.eq_nil_of_length_eq_zero (by omega)
        rw [this] at hb
        cases hb
    have o2 := note_br hb
    cases hb1 : Plain.hasBr (span l k m)
    · rcases note_no hb1 with ⟨o1, _⟩ | ⟨o1, r1⟩
      · exact l4_NL x l cap k m c hcap hn hkm hmc hc w hsrc o1 o2 hb hpos
      · exact l4_KL x l cap k m c hcap hn hkm hmc hc w hsrc o1 o2 hb hpos
    · exact l4_LL x l cap k m c hcap hn hkm hmc hc w hsrc (note_br hb1) o2 hb hpos

theorem walk (a0 : Option Addr) (len0 cap0 : Nat) (z0 : List Int) (a1 : Int) (a2 : Int) (a3 : Int) (w : World) (w0 : IsRow .u8 w a0 len0 cap0 z0) :
    Calls Try.prog 4 #[.slice a0 len0 cap0, .int .i64 a1, .int .i64 a2, .int .i64 a3] w fun e w' => e = .returned (.bool true) ∧ Below w.heap.size w w' := by
  by_cases hout : 1048576 < len0 ∨ a1 < 0 ∨ a2 < a1 ∨ a3 < a2 ∨ (len0 : Int) < a3
  · exact l4_out a0 len0 cap0 a1 a2 a3 w w0.len hout
  · obtain ⟨k, rfl⟩ := Int.eq_ofNat_of_zero_le (show 0 ≤ a1 by omega)
    obtain ⟨m, rfl⟩ := Int.eq_ofNat_of_zero_le (show 0 ≤ a2 by omega)
    obtain ⟨c, rfl⟩ := Int.eq_ofNat_of_zero_le (show 0 ≤ a3 by omega)
    rcases w0.src with ⟨rfl, rfl, rfl⟩ | ⟨x, l, rfl, rfl, hc, hsrc⟩
    · obtain rfl : k = 0 := by omega
      obtain rfl : m = 0 := by omega
      obtain rfl : c = 0 := by omega
      exact l4_nil w
    · exact main x l cap0 k m c hc (by omega) (by omega) (by omega) (by omega) w hsrc

set_option maxRecDepth 100000 in
theorem lifted (os : Os) (started : os.Started) (H : Type) (enc : TypeId × Value → H) :
    ReturnsInHanded {} Try.checked os 4 .any (Rows.fnNoteKeyForYAMLKeepsALineBreakAsTheColonMovesOnSpec.pre6 enc Try.prog Try.f4 Rows.fnNoteKeyForYAMLKeepsALineBreakAsTheColonMovesOnRow.domain false) (Rows.fnNoteKeyForYAMLKeepsALineBreakAsTheColonMovesOnSpec.post enc Try.prog Try.f4 false true false false) := by
  refine returnsInHanded_of_change (C := Try.checked) own started (by kernel_rfl) Try.func4
    (ChangeSpec.witness6 (enc := enc) (C := Try.checked) false ⟨#[], #[.slice none 0 0, .int .i64 0, .int .i64 0, .int .i64 0], []⟩ 8 (by kernel_rfl) (by kernel_rfl) (by kernel_rfl) (by kernel_rfl)) ?_
  intro W base args ds gs before hval0 hW hcnd _
  have hval : ∀ (j : Nat) t v, Try.f4.params[j]? = some t → args[j]? = some v → Value.okWide Try.prog W .any base t v := hval0
  have hW' := hW
  obtain ⟨p, q, hA0, hV, rfl, hfz, hnd⟩ := hW
  have hA : DataW.TrodAll enc Try.prog W 0 (fun _ => true) true Try.f4.params.toList args.toList ds p := hA0
  rw [Try.params4] at hA hval
  obtain ⟨v0, vs0, d0, ds0, p0, q0, hargs, rfl, rfl, h0, r0⟩ := trodAll_cons hA
  obtain ⟨v1, vs1, d1, ds1, p1, q1, rfl, rfl, rfl, h1, r1⟩ := trodAll_cons r0
  obtain ⟨v2, vs2, d2, ds2, p2, q2, rfl, rfl, rfl, h2, r2⟩ := trodAll_cons r1
  obtain ⟨v3, vs3, d3, ds3, p3, q3, rfl, rfl, rfl, h3, r3⟩ := trodAll_cons r2
  obtain ⟨rfl, rfl, rfl⟩ := trodAll_nil r3
  obtain rfl : args = #[v0, v1, v2, v3] := by cases args; simp_all
  obtain ⟨rfl, rfl⟩ := trodVars_none hV
  obtain ⟨a0, len0, cap0, rfl⟩ := okWide_slice Try.underlying22 (hval 0 22 v0 rfl rfl)
  have k0 := h0
  have lt0 : ∀ x ∈ p0, x.block < W.heap.size := by obtain ⟨m, hm⟩ := k0; exact DataW.trod_lt m _ _ _ hm
  obtain ⟨z0, w0⟩ : ∃ zs, IsRow .u8 W a0 len0 cap0 zs := by
    obtain ⟨fuel, hf⟩ := h0
    rcases open_ints Try.underlying22 Try.underlying5 (by kernel_rfl) hf with ⟨hcs, _⟩ | ⟨x, l, c, zs, hcs, _, hl, hm, hz, _, hcell, hwz⟩
    · simp [Value.cells] at hcs
      obtain ⟨rfl, rfl, rfl⟩ := hcs
      exact ⟨[], .inl ⟨rfl, rfl, rfl, rfl⟩⟩
    · simp [Value.cells] at hcs
      obtain ⟨rfl, rfl, rfl⟩ := hcs
      exact ⟨zs, .inr ⟨_, rfl, hl, hm, by simpa using hz, hcell, hwz⟩⟩
  obtain ⟨a1, rfl, rfl, rfl, w1⟩ := open_int Try.underlying3 (hval 1 3 v1 rfl rfl) h1
  obtain ⟨a2, rfl, rfl, rfl, w2⟩ := open_int Try.underlying3 (hval 2 3 v2 rfl rfl) h2
  obtain ⟨a3, rfl, rfl, rfl, w3⟩ := open_int Try.underlying3 (hval 3 3 v3 rfl rfl) h3
  clear hA0 hval0
  refine (walk a0 len0 cap0 z0 a1 a2 a3 W w0).mono fun e W' ⟨he, bel⟩ => ?_
  subst he
  exact ⟨_, rfl, _, _, _, [], _, [], hW', trodAll_mk1 (shut_bool Try.underlying4 _), (trodAll_cons_mk (Below.trod laidOut (by kernel_rfl) (of_decide_eq_true (by kernel_rfl)) k0 bel lt0) (trodAll_cons_mk (shut_int Try.underlying3 w1) (trodAll_cons_mk (shut_int Try.underlying3 w2) (trodAll_cons_mk (shut_int Try.underlying3 w3) trodAll_mk0)))), rfl, bel.frame _, fun h => by cases h⟩

theorem over : Rows.fnNoteKeyForYAMLKeepsALineBreakAsTheColonMovesOnRow.holds Try.pinned (OpenSpec.ofChange Rows.fnNoteKeyForYAMLKeepsALineBreakAsTheColonMovesOnSpec) :=
  OpenClaim.holds_of_wide 4 Try.f4 rfl rfl rfl rfl rfl rfl rfl ⟨rfl, rfl, rfl, rfl, rfl⟩ rfl rfl rfl rfl rfl (by kernel_rfl) Try.func4 (by kernel_rfl)
    (of_decide_eq_true (by kernel_rfl)) (by unfold Func.isWrapper; first | (rw [if_pos (by decide +kernel)]; kernel_rfl) | (rw [if_neg (by decide +kernel)]; exact ⟨rfl, rfl⟩))
    (fun os started H enc _ => lifted os started H enc)

/-- ████ THE STATEMENT ████ -/
theorem proved : Rows.FnNoteKeyForYAMLKeepsALineBreakAsTheColonMovesOnSaid := over
end Go.Proofs.Qxb6615701a.fnNoteKeyForYAMLKeepsALineBreakAsTheColonMovesOn
