/-
  endsLine (33), slices.IndexFunc (39), slices.ContainsFunc (32), zzHasBreak (13), utf8.RuneCountInString (40), utf8.RuneCount (35).
-/
import Derived.Test.Qxb6615701aBase
import Derived.Laws.RangeString
import Derived.Laws.RangeAny
import Derived.Laws.IdiomStrings
namespace Go.Proofs.Qxb6615701a
open Go Go.RowKit
set_option linter.unusedVariables false

set_option maxHeartbeats 400000 in
theorem count_str (s : ByteArray) (w : World) (hs : s.size ≤ 1048576) :
    Calls Try.prog 40 #[.string s] w fun e w' => e = .returned (.int .i64 (Plain.rc s.data.toList 0)) ∧ Below w.heap.size w w' := by
  have hl : s.data.toList.length = s.size := Array.length_toList
  have HL := hide hl
  clear hl
  go_enter Try.func40, Try.ntmps40
  go_wp2
  go_loopw [2] (fun n w' => ∃ (pos acc : Nat), w' = w.iter s pos ∧ n = .int .i64 acc ∧ acc ≤ pos ∧ acc ≤ s.size ∧ Hid (acc + Plain.rc s.data.toList pos = Plain.rc s.data.toList 0)) (fun _ w' => s.size - w'.iterPos w.heap.size)
  case atStart => exact ⟨0, 0, rfl, rfl, Nat.le_refl _, Nat.zero_le _, Nat.zero_add _⟩
  case round =>
    obtain ⟨pos, acc, rfl, rfl, ha, hacc, hc⟩ := hrel
    by_cases hp : pos < s.size
    · have hnx : ∀ ty, (Instr.next (.pointer (some ⟨w.heap.size, 0, none⟩)) true ty).run Try.prog (w.iter s pos) = _ := fun ty => run_next_any w s pos ty hp
      have hv := Plain.vlen_le s.data.toList pos
      have hst : Hid (acc + 1 + Plain.rc s.data.toList (pos + Plain.vlen s.data.toList pos) = Plain.rc s.data.toList 0) := by
        show _ = _
        rw [← hc.out, Plain.rc_step _ pos (by rw [unhide HL]; exact hp)]
        omega
      have hbd : acc + 1 ≤ s.size := by
        have h1 := hst.out
        have h2 := (Plain.rc_bounds s.data.toList).1
        rw [unhide HL] at h2
        omega
      rw [Plain.decode_vlen] at hnx
      generalize Plain.vlen s.data.toList pos = v at hnx hv hst
      clear hc
      go_wp2
      go_roundw
      case rel => exact ⟨pos + v, acc + 1, rfl, by go_num, by omega, hbd, hst⟩
      case measure =>
        simp
        omega
    · have hnx : ∀ ty, (Instr.next (.pointer (some ⟨w.heap.size, 0, none⟩)) true ty).run Try.prog (w.iter s pos) = _ := fun ty => run_next_end w s pos ty hp
      have he : Hid (acc = Plain.rc s.data.toList 0) := by
        show _ = _
        rw [← hc.out, Plain.rc_end _ pos (by rw [unhide HL]; exact hp), Nat.add_zero]
      clear hc
      go_wp2
      go_ret
      exact ⟨by rw [← he.out]; rfl, mk_below _ _⟩
end Go.Proofs.Qxb6615701a
