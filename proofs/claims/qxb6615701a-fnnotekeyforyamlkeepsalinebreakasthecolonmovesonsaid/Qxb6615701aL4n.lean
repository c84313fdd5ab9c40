/-
  The walk of FnNoteKeyForYAMLKeepsALineBreakAsTheColonMovesOn (function 4): the nil document.
-/
import Derived.Test.Qxb6615701aL4pre
namespace Go.Proofs.Qxb6615701a
open Go Go.RowKit
set_option linter.unusedVariables false

set_option maxHeartbeats 1600000 in
set_option maxRecDepth 100000 in
theorem l4_nil (w : World) : Calls Try.prog 4 #[.slice none 0 0, .int .i64 0, .int .i64 0, .int .i64 0] w fun e w' => e = .returned (.bool true) ∧ Below w.heap.size w w' := by
  have hq := run_neq_slice_nil_any (P := Try.prog) w 22 5 none 0 0 0 0 Try.underlying22
  have hk : ∀ W : World, Calls Try.prog 9 #[.slice none 0 0, .int .i64 0, .int .i64 0] W fun e w' => e = .returned (.pointer (some ⟨W.heap.size, 0, none⟩)) ∧ NoteIs w' W.heap.size 0 none ∧ Below W.heap.size W w' :=
    fun W => key9 (.slice none 0 0) [] 0 0 (Nat.le_refl _) (Nat.le_refl _) (by simp) W (.inl ⟨rfl, rfl⟩)
  have HK := hide hk
  clear hk
  go_enter Try.func4, Try.ntmps4
  go_wp2_with (go_at_call 12; go_in)
  rw [later_lit, longK_lit]
  refine (unhide HK w).mono ?_
  rintro e W2 ⟨rfl, hN1, hB2⟩
  have HN1 := hide hN1
  clear hN1
  go_wp2_with fail
  refine (unhide HK W2).mono ?_
  rintro e W3 ⟨rfl, hN2, hB3⟩
  have HN2 := hide hN2
  have HN1' := hide ((unhide HN1).below hB3)
  have HBE := hide (hB2.trans (hB3.mono hB2.size))
  clear hN2 hB2 hB3
  have q3 := later_emp
  have q4 := longK_emp
  go_wp2_with fail
  refine (cnt_none _ _ _ (unhide HN1')).mono ?_
  rintro e W4 ⟨rfl, hW4⟩
  subst hW4
  go_wp2_with fail
  refine (cnt_none _ _ _ (unhide HN2)).mono ?_
  rintro e W5 ⟨rfl, hW5⟩
  subst hW5
  go_wp2_with fail
  refine (brk_zero _ _ _).mono ?_
  rintro e W8 ⟨rfl, hW8⟩
  subst hW8
  rw [show Plain.hasBr [] = false from rfl]
  go_wp2
  go_ret
  exact ⟨rfl, unhide HBE⟩
end Go.Proofs.Qxb6615701a
