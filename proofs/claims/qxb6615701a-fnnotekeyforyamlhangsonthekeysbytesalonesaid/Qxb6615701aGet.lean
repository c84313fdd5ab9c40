/-
  ZZYAMLCount (10), ZZYAMLPlace (11).
-/
import Derived.Test.Qxb6615701aKey9
namespace Go.Proofs.Qxb6615701a
open Go Go.RowKit
set_option linter.unusedVariables false

theorem cnt_none (gy : Nat) (off : Int) (w : World) (h : NoteIs w gy off none) : Calls Try.prog 10 #[.pointer (some ⟨gy, 0, none⟩)] w fun e w' => e = .returned (.int .i64 0) ∧ w' = w := by
  have hc : w.cell? ⟨gy, 0, none⟩ = some (.slice none 0 0) := h
  clear h
  go_enter Try.func10, Try.ntmps10
  go_wp2
  go_ret
  exact ⟨rfl, rfl⟩

theorem cnt_some (gy : Nat) (off : Int) (m : ByteArray) (w : World) (h : NoteIs w gy off (some m)) : Calls Try.prog 10 #[.pointer (some ⟨gy, 0, none⟩)] w fun e w' => e = .returned (.int .i64 1) ∧ w' = w := by
  obtain ⟨gp, cap, hc, h1, h2, h3⟩ := h
  go_enter Try.func10, Try.ntmps10
  go_wp2
  go_ret
  exact ⟨rfl, rfl⟩

set_option maxHeartbeats 400000 in
theorem place0 (gy : Nat) (off : Int) (m : ByteArray) (w : World) (h : NoteIs w gy off (some m)) : Calls Try.prog 11 #[.pointer (some ⟨gy, 0, none⟩), .int .i64 0] w fun e w' => e = .returned (.tuple #[.int .i64 off, .string m]) ∧ ∃ n, w' = w.drewN n := by
  obtain ⟨gp, cap, hc, h1, h2, h3⟩ := h
  go_enter Try.func11, Try.ntmps11
  go_wp2
  go_quiet (fail)
  go_wp2
  go_ret2
  exact ⟨rfl, _, rfl⟩

theorem NoteIs.drew {w : World} {gy : Nat} {off : Int} {o : Option ByteArray} (h : NoteIs w gy off o) (n : Nat) : NoteIs (w.drewN n) gy off o := by
  cases o with
  | none => exact h
  | some m => exact h
theorem NoteIs.below {w w' : World} {gy : Nat} {off : Int} {o : Option ByteArray} (h : NoteIs w gy off o) (hb : Below w.heap.size w w') : NoteIs w' gy off o := by
  cases o with
  | none => exact (hb.cell (p := ⟨gy, 0, none⟩) (World.block_lt_of_cell? w _ h)).trans h
  | some m =>
    obtain ⟨gp, cap, hc, h1, h2, h3⟩ := h
    exact ⟨gp, cap, (hb.cell (p := ⟨gy, 0, none⟩) (World.block_lt_of_cell? w _ hc)).trans hc, h1, (hb.cell (p := ⟨gp, 0, none⟩) (World.block_lt_of_cell? w _ h2)).trans h2, (hb.cell (p := ⟨gp, 1, none⟩) (World.block_lt_of_cell? w _ h3)).trans h3⟩
end Go.Proofs.Qxb6615701a
