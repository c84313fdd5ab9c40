/-
  The walk of FnNoteKeyForYAMLKeepsALineBreakAsTheColonMovesOn (function 4).
-/
import Derived.Test.Qxb6615701aL4pre
namespace Go.Proofs.Qxb6615701a
open Go Go.RowKit
set_option linter.unusedVariables false

set_option maxHeartbeats 1600000 in
set_option maxRecDepth 100000 in
theorem l4_KL (x : Addr) (l : List UInt8) (cap k m c : Nat) (hcap : l.length ≤ cap) (hn : l.length ≤ 1048576) (hkm : k ≤ m) (hmc : m ≤ c) (hc : c ≤ l.length) (w : World) (hsrc : Src w x l)
    (ho1 : noteOf (span l k m) = (some longK)) (ho2 : noteOf (span l k c) = (some later)) (hb : Plain.hasBr (span l k c) = true) (hpos : k < c) :
    Calls Try.prog 4 #[.slice (some x) l.length cap, .int .i64 k, .int .i64 m, .int .i64 c] w fun e w' => e = .returned (.bool true) ∧ Below w.heap.size w w' := by
  have hmk := run_make_row' (P := Try.prog) 22 5 (.int .u8 0) 1 Try.underlying22 info5 rfl .i64 .i64 l.length (by omega) (by omega)
  have hq := run_neq_slice_nil_any (P := Try.prog) w 22 5 (some x) l.length cap 0 0 Try.underlying22
  have HS := hide hsrc
  have HO1 := hide ho1
  have HO2 := hide ho2
  have HBR := hide hb
  clear hsrc ho1 ho2 hb
  have hlk : ¬ l.length = k := by omega
  go_enter Try.func4, Try.ntmps4
  go_wp2_with (first | (go_at_call 12; go_in) | (refine wpList_copy_splice rfl _ _ 22 22 rfl 5 Try.underlying22 size5 (some ⟨w.heap.size, 0, none⟩) (some x) l.length l.length l.length cap rfl rfl w.heap.size 0 (madeCells #[.int .u8 0] l.length).toList 5 ?c0 (Lib.byteCells l) ?c1 ?c2 ?c3 (byteCells_one l) w.heap.size w ?c4 (Nat.le_refl _) ?_))
  case c0 => exact heap_alloc_new w _
  case c1 => rw [byteCells_length]; exact (Nat.min_self _).symm
  case c2 => exact fun _ => src_cells ((unhide HS).below (mk_below w _))
  case c3 => rw [byteCells_length, Nat.zero_add]; simp [size_madeCells]
  case c4 => exact mk_below w _
  intro W1 HG hB1
  have hBy := copied (by rw [Array.length_toList, size_madeCells]) HG.out
  have HD : Hid (Doc W1 (.slice (some ⟨w.heap.size, 0, none⟩) l.length l.length) l) := .inr ⟨_, rfl, hBy⟩
  have HBy := hide hBy
  clear HG hBy hmk hq
  go_wp2_with fail
  rw [later_lit, longK_lit]
  refine (key9 _ l k m hkm (by omega) hn W1 (unhide HD)).mono ?_
  rintro e W2 ⟨rfl, hN1, hB2⟩
  rw [unhide HO1] at hN1
  have HN1 := hide hN1
  clear hN1
  go_wp2_with fail
  refine (key9 _ l k c (by omega) hc hn W2 ((unhide HD).below hB2)).mono ?_
  rintro e W3 ⟨rfl, hN2, hB3⟩
  rw [unhide HO2] at hN2
  have HN2 := hide hN2
  have HN1' := hide ((unhide HN1).below hB3)
  have HBy3 := hide (((unhide HBy).below hB2 (unhide HBy).lt).below hB3 ((unhide HBy).below hB2 (unhide HBy).lt).lt)
  have HBE := hide ((hB1.trans (hB2.mono hB1.size)).trans (hB3.mono (Nat.le_trans hB1.size hB2.size)))
  clear hN2 hB1 hB2 hB3
  have q1 := later_ne
  have q2 := longK_ne
  have q3 := later_emp
  have q4 := longK_emp
  go_wp2_with fail
  refine (cnt_some _ _ _ _ (unhide HN1')).mono ?_
  rintro e W4 ⟨rfl, hW4⟩
  subst hW4
  go_wp2_with fail
  refine (cnt_some _ _ _ _ (unhide HN2)).mono ?_
  rintro e W5 ⟨rfl, hW5⟩
  subst hW5
  go_wp2_with fail
  refine (place0 _ _ _ _ (unhide HN1')).mono ?_
  rintro e W6 ⟨rfl, n6, hW6⟩
  subst hW6
  go_wp2_with fail
  refine (place0 _ _ _ _ ((unhide HN2).drew _)).mono ?_
  rintro e W7 ⟨rfl, n7, hW7⟩
  subst hW7
  go_wp2_with fail
  refine (brk_some w.heap.size k (c - k) (l.length - k) (span l k c) (span_len l k c hc) (by omega) (by omega) (W5.drewN (n6 + n7)) (fun j hj => span_cells (unhide HBy3) hc j hj)).mono ?_
  rintro e W8 ⟨rfl, hW8⟩
  subst hW8
  rw [unhide HBR]
  go_wp2
  go_ret
  exact ⟨rfl, below_drewN (unhide HBE) _⟩

set_option maxHeartbeats 1600000 in
set_option maxRecDepth 100000 in
theorem l4_LL (x : Addr) (l : List UInt8) (cap k m c : Nat) (hcap : l.length ≤ cap) (hn : l.length ≤ 1048576) (hkm : k ≤ m) (hmc : m ≤ c) (hc : c ≤ l.length) (w : World) (hsrc : Src w x l)
    (ho1 : noteOf (span l k m) = (some later)) (ho2 : noteOf (span l k c) = (some later)) (hb : Plain.hasBr (span l k c) = true) (hpos : k < c) :
    Calls Try.prog 4 #[.slice (some x) l.length cap, .int .i64 k, .int .i64 m, .int .i64 c] w fun e w' => e = .returned (.bool true) ∧ Below w.heap.size w w' := by
  have hmk := run_make_row' (P := Try.prog) 22 5 (.int .u8 0) 1 Try.underlying22 info5 rfl .i64 .i64 l.length (by omega) (by omega)
  have hq := run_neq_slice_nil_any (P := Try.prog) w 22 5 (some x) l.length cap 0 0 Try.underlying22
  have HS := hide hsrc
  have HO1 := hide ho1
  have HO2 := hide ho2
  have HBR := hide hb
  clear hsrc ho1 ho2 hb
  have hlk : ¬ l.length = k := by omega
  go_enter Try.func4, Try.ntmps4
  go_wp2_with (first | (go_at_call 12; go_in) | (refine wpList_copy_splice rfl _ _ 22 22 rfl 5 Try.underlying22 size5 (some ⟨w.heap.size, 0, none⟩) (some x) l.length l.length l.length cap rfl rfl w.heap.size 0 (madeCells #[.int .u8 0] l.length).toList 5 ?c0 (Lib.byteCells l) ?c1 ?c2 ?c3 (byteCells_one l) w.heap.size w ?c4 (Nat.le_refl _) ?_))
  case c0 => exact heap_alloc_new w _
  case c1 => rw [byteCells_length]; exact (Nat.min_self _).symm
  case c2 => exact fun _ => src_cells ((unhide HS).below (mk_below w _))
  case c3 => rw [byteCells_length, Nat.zero_add]; simp [size_madeCells]
  case c4 => exact mk_below w _
  intro W1 HG hB1
  have hBy := copied (by rw [Array.length_toList, size_madeCells]) HG.out
  have HD : Hid (Doc W1 (.slice (some ⟨w.heap.size, 0, none⟩) l.length l.length) l) := .inr ⟨_, rfl, hBy⟩
  have HBy := hide hBy
  clear HG hBy hmk hq
  go_wp2_with fail
  rw [later_lit, longK_lit]
  refine (key9 _ l k m hkm (by omega) hn W1 (unhide HD)).mono ?_
  rintro e W2 ⟨rfl, hN1, hB2⟩
  rw [unhide HO1] at hN1
  have HN1 := hide hN1
  clear hN1
  go_wp2_with fail
  refine (key9 _ l k c (by omega) hc hn W2 ((unhide HD).below hB2)).mono ?_
  rintro e W3 ⟨rfl, hN2, hB3⟩
  rw [unhide HO2] at hN2
  have HN2 := hide hN2
  have HN1' := hide ((unhide HN1).below hB3)
  have HBy3 := hide (((unhide HBy).below hB2 (unhide HBy).lt).below hB3 ((unhide HBy).below hB2 (unhide HBy).lt).lt)
  have HBE := hide ((hB1.trans (hB2.mono hB1.size)).trans (hB3.mono (Nat.le_trans hB1.size hB2.size)))
  clear hN2 hB1 hB2 hB3
  have q1 := later_ne
  have q2 := longK_ne
  have q3 := later_emp
  have q4 := longK_emp
  go_wp2_with fail
  refine (cnt_some _ _ _ _ (unhide HN1')).mono ?_
  rintro e W4 ⟨rfl, hW4⟩
  subst hW4
  go_wp2_with fail
  refine (cnt_some _ _ _ _ (unhide HN2)).mono ?_
  rintro e W5 ⟨rfl, hW5⟩
  subst hW5
  go_wp2_with fail
  refine (place0 _ _ _ _ (unhide HN1')).mono ?_
  rintro e W6 ⟨rfl, n6, hW6⟩
  subst hW6
  go_wp2_with fail
  refine (place0 _ _ _ _ ((unhide HN2).drew _)).mono ?_
  rintro e W7 ⟨rfl, n7, hW7⟩
  subst hW7
  go_wp2_with fail
  refine (brk_some w.heap.size k (c - k) (l.length - k) (span l k c) (span_len l k c hc) (by omega) (by omega) (W5.drewN (n6 + n7)) (fun j hj => span_cells (unhide HBy3) hc j hj)).mono ?_
  rintro e W8 ⟨rfl, hW8⟩
  subst hW8
  rw [unhide HBR]
  go_wp2
  go_ret
  exact ⟨rfl, below_drewN (unhide HBE) _⟩

end Go.Proofs.Qxb6615701a
