/-
  zzRuneCount (26), zzYAMLNote (8).
-/
import Derived.Test.Qxb6615701aVal
import Derived.Test.Qxb6615701aL4pre
namespace Go.Proofs.Qxb6615701a
open Go Go.RowKit
set_option linter.unusedVariables false

set_option maxHeartbeats 400000 in
theorem zrc_some (g o n cap : Nat) (l : List UInt8) (hl : l.length = n) (hn : n ≤ 1048576) (hcap : n ≤ cap) (w : World) (hA : At w g o l) :
    Calls Try.prog 26 #[.slice (some ⟨g, o, none⟩) n cap] w fun e w' => e = .returned (.int .i64 (Plain.rc l 0)) ∧ w = w' := by
  have HL := hide hl
  have HA := hide hA
  clear hl hA
  go_enter Try.func26, Try.ntmps26
  go_wp2
  go_loop [3, 4] (fun vn vi => ∃ (i m : Nat), vi = .int .i64 i ∧ vn = .int .i64 m ∧ i ≤ 1048580 ∧ m ≤ i ∧ Hid (m + Plain.rc l i = Plain.rc l 0)) (fun _ vi => n - (intOf vi).toNat)
  case atStart => exact ⟨0, 0, rfl, rfl, Nat.zero_le _, Nat.le_refl _, Nat.zero_add _⟩
  case round =>
    obtain ⟨i, m, rfl, rfl, hib, hm, hh⟩ := hrel
    by_cases hlt : i < n
    · have hv := Plain.vlen_le l i
      have hst : Hid (m + 1 + Plain.rc l (i + Plain.vlen l i) = Plain.rc l 0) := by
        show _ = _
        rw [← hh.out, Plain.rc_step l i (by rw [unhide HL]; exact hlt)]
        omega
      clear hh
      go_wp2_with fail
      refine (val_any g o n cap l (unhide HL) hn hcap i hlt _ (unhide HA)).mono ?_
      rintro e w1 ⟨rfl, rfl⟩
      generalize Plain.vlen l i = v at hv hst
      go_wp2
      go_round
      case rel => exact ⟨i + v, m + 1, by go_num, by go_num, by omega, by omega, hst⟩
      case measure => simp [intOf]; omega
    · have he : Hid ((m : Int) = (Plain.rc l 0 : Nat)) := by
        show _ = _
        rw [← hh.out, Plain.rc_end l i (by rw [unhide HL]; exact hlt), Nat.add_zero]
      clear hh
      go_wp2
      go_ret
      exact ⟨ret_i64 he.out, rfl⟩

set_option maxHeartbeats 400000 in
theorem zrc_zero (ao : Option Addr) (cap : Nat) (w : World) : Calls Try.prog 26 #[.slice ao 0 cap] w fun e w' => e = .returned (.int .i64 0) ∧ w = w' := by
  go_enter Try.func26, Try.ntmps26
  go_wp2
  go_loop [3, 4] (fun n i => n = .int .i64 0 ∧ i = .int .i64 0) (fun _ _ => 0)
  case atStart => exact ⟨rfl, rfl⟩
  case round =>
    obtain ⟨rfl, rfl⟩ := hrel
    go_wp2
    go_ret
    exact ⟨rfl, rfl⟩

/-- The note as a text: nothing noted is the empty text. -/
def noteStr : Option ByteArray → ByteArray
  | some m => m
  | none => ⟨#[]⟩

theorem yn_zero (ao : Option Addr) (cap : Nat) (w : World) : Calls Try.prog 8 #[.slice ao 0 cap] w fun e w' => e = .returned (.string ⟨#[]⟩) ∧ w = w' := by
  have hb : Plain.hasBr [] = false := rfl
  go_enter Try.func8, Try.ntmps8
  go_wp2_with fail
  refine (brk_zero ao cap _).mono ?_
  rintro e w1 ⟨rfl, hw⟩
  subst hw
  rw [hb]
  go_wp2_with fail
  refine (zrc_zero ao cap _).mono ?_
  rintro e w1 ⟨rfl, rfl⟩
  go_wp2
  go_ret
  exact ⟨rfl, rfl⟩

set_option maxRecDepth 100000 in
theorem yn_some (g o n cap : Nat) (l : List UInt8) (hl : l.length = n) (hn : n ≤ 1048576) (hcap : n ≤ cap) (w : World) (hA : At w g o l) :
    Calls Try.prog 8 #[.slice (some ⟨g, o, none⟩) n cap] w fun e w' => e = .returned (.string (noteStr (noteOf l))) ∧ w = w' := by
  have H1 := hide (brk_some g o n cap l hl hn hcap w hA)
  have H2 := hide (zrc_some g o n cap l hl hn hcap w hA)
  clear hl hA
  by_cases hb : Plain.hasBr l = true
  · have e : noteStr (noteOf l) = later := by rw [noteOf, if_pos hb]; rfl
    rw [e]
    clear e
    go_enter Try.func8, Try.ntmps8
    go_wp2_with fail
    refine (unhide H1).mono ?_
    rintro e w1 ⟨rfl, hw⟩
    subst hw
    rw [hb]
    go_wp2
    go_ret
    exact ⟨rfl, rfl⟩
  · have hb' : Plain.hasBr l = false := by simpa using hb
    by_cases hr : 1024 < Plain.rc l 0
    · have e : noteStr (noteOf l) = longK := by rw [noteOf, if_neg hb, if_pos hr]; rfl
      rw [e]
      clear e hb
      go_enter Try.func8, Try.ntmps8
      go_wp2_with fail
      refine (unhide H1).mono ?_
      rintro e w1 ⟨rfl, hw⟩
      subst hw
      rw [hb']
      go_wp2_with fail
      refine (unhide H2).mono ?_
      rintro e w2 ⟨rfl, rfl⟩
      go_wp2
      go_ret
      exact ⟨rfl, rfl⟩
    · have e : noteStr (noteOf l) = ⟨#[]⟩ := by rw [noteOf, if_neg hb, if_neg hr]; rfl
      rw [e]
      clear e hb
      go_enter Try.func8, Try.ntmps8
      go_wp2_with fail
      refine (unhide H1).mono ?_
      rintro e w1 ⟨rfl, hw⟩
      subst hw
      rw [hb']
      go_wp2_with fail
      refine (unhide H2).mono ?_
      rintro e w2 ⟨rfl, rfl⟩
      go_wp2
      go_ret
      exact ⟨rfl, rfl⟩
end Go.Proofs.Qxb6615701a
