/-
  ZZNewTree (16), ZZTreeAdd (17), ZZTreeEncode (24): a tree and the nodes that it was given.
-/
import Derived.Test.Qxb6615701aTadd
namespace Go.Proofs.Qxb6615701a
open Go Go.RowKit
set_option linter.unusedVariables false

def PS.init : PS := ⟨[], [], false, 0, 0⟩
/-- The tree has been given the nodes L. -/
def Tree (w : World) (gt gb cs room : Nat) (L : List Nd) (fp : List Nat) : Prop := ∃ pre bs, L = pre ++ bs ∧ TM w gt gb cs room pre.length bs (pre.foldl (PS.enc1 cs) PS.init) fp
/-- It has encoded them all. -/
def Done (w : World) (gt gb cs room : Nat) (L : List Nd) (fp : List Nat) : Prop := TM w gt gb cs room L.length [] (L.foldl (PS.enc1 cs) PS.init) fp

theorem Tree.touch {w w' : World} {F : Nat → Prop} {gt gb cs room : Nat} {L : List Nd} {fp : List Nat} (h : Tree w gt gb cs room L fp) (ht : Touch w w' F) (h1 : ¬ F gt) (h2 : ¬ F gb) (h3 : ∀ k ∈ fp, ¬ F k) : Tree w' gt gb cs room L fp := by
  obtain ⟨pre, bs, e, h⟩ := h
  exact ⟨pre, bs, e, h.touch ht h1 h2 h3⟩
theorem Tree.lt {w : World} {gt gb cs room : Nat} {L : List Nd} {fp : List Nat} (h : Tree w gt gb cs room L fp) : gt < w.heap.size ∧ gb < w.heap.size ∧ ∀ k ∈ fp, k < w.heap.size := by
  obtain ⟨pre, bs, e, h⟩ := h
  exact ⟨h.mem.lt.1, h.gb_lt, h.mem.lt.2⟩

theorem add28 (gt gb cs room : Nat) (h31 : 31 ≤ cs) (hcs : cs ≤ 65536) (hr1 : 1 ≤ room) (hroom : room ≤ 65536) (n : Nd) (hnok : n.k ≤ 4 ∧ n.e ≠ -1) (w : World) (L : List Nd) (hL : L.length ≤ 32768) (fp : List Nat) (h : Tree w gt gb cs room L fp) :
    Calls Try.prog 28 #[.pointer (some ⟨gt, 0, none⟩), n.val] w fun e w' => e = .returned (.tuple #[]) ∧ ∃ fp', Tree w' gt gb cs room (L ++ [n]) fp' ∧ StepB w w' gt gb fp fp' := by
  obtain ⟨pre, bs, rfl, h⟩ := h
  rw [List.length_append] at hL
  by_cases hlt : bs.length < room
  · refine (add_room gt gb cs room hroom n hnok w _ bs _ fp h hlt).mono ?_
    rintro e w' ⟨rfl, h1, h2⟩
    exact ⟨rfl, fp, ⟨pre, bs ++ [n], by rw [List.append_assoc], h1⟩, h2⟩
  · have hfin := foldl_fin cs pre PS.init
    have h0 : PS.init.fin.length = 0 := rfl
    refine (add_full gt gb cs room h31 hcs hr1 hroom n hnok w pre.length (by omega) bs _ (by omega) fp h (by have := h.le; omega)).mono ?_
    rintro e w' ⟨rfl, fp', h1, h2⟩
    exact ⟨rfl, fp', ⟨pre ++ bs, [n], rfl, by rw [List.length_append, List.foldl_append]; exact h1⟩, h2⟩

set_option maxHeartbeats 1000000 in
theorem tree_add (gt gb cs room : Nat) (h31 : 31 ≤ cs) (hcs : cs ≤ 65536) (hr1 : 1 ≤ room) (hroom : room ≤ 65536) (n : Nd) (hnok : n.k ≤ 4 ∧ n.e ≠ -1) (w : World) (L : List Nd) (hL : L.length ≤ 32768) (fp : List Nat) (h : Tree w gt gb cs room L fp) :
    Calls Try.prog 17 #[.pointer (some ⟨gt, 0, none⟩), .int .u8 (n.k : Int), .bool n.dec, .int .i64 n.a, .int .i64 n.s, .int .i64 n.e] w fun e w' => e = .returned (.tuple #[]) ∧ ∃ fp', Tree w' gt gb cs room (L ++ [n]) fp' ∧ StepB w w' gt gb fp fp' := by
  have hcall := hide (add28 gt gb cs room h31 hcs hr1 hroom n hnok w L hL fp h)
  clear h hnok
  go_enter Try.func17, Try.ntmps17
  go_wp2_with fail
  refine hcall.out.mono ?_
  rintro e w' ⟨rfl, fp', h1, h2⟩
  have H1 := hide h1
  have H2 := hide h2
  clear h1 h2
  go_wp2
  go_end0
  exact ⟨rfl, fp', H1.out, H2.out⟩

set_option maxHeartbeats 1000000 in
theorem tree_enc (gt gb cs room : Nat) (h31 : 31 ≤ cs) (hcs : cs ≤ 65536) (hroom : room ≤ 65536) (w : World) (L : List Nd) (hL : L.length ≤ 32768) (fp : List Nat) (h : Tree w gt gb cs room L fp) :
    Calls Try.prog 24 #[.pointer (some ⟨gt, 0, none⟩)] w fun e w' => e = .returned (.tuple #[]) ∧ ∃ fp', Done w' gt gb cs room L fp' ∧ StepB w w' gt gb fp fp' := by
  obtain ⟨pre, bs, rfl, h⟩ := h
  rw [List.length_append] at hL
  have hfin := foldl_fin cs pre PS.init
  have h0 : PS.init.fin.length = 0 := rfl
  have hcall := hide (encode_ok gt gb cs room h31 hcs pre.length (by omega) _ (by omega) bs (by omega) h.le hroom w fp h.mem h.node h.ok h.gb_lt h.ne h.nf)
  have H := hide h
  clear h hfin h0
  go_enter Try.func24, Try.ntmps24
  go_wp2_with fail
  refine hcall.out.mono ?_
  rintro e w' ⟨rfl, fp', m3, s3⟩
  have D3 : Hid (Done w' gt gb cs room (pre ++ bs) fp') := hide (by
    have hgbF : ¬ (fun k => k = gt ∨ k ∈ fp) gb := by
      rintro (h | h)
      · exact H.out.ne h
      · exact H.out.nf h
    obtain ⟨arr, b1, b2⟩ := H.out.blk
    refine ⟨?_, ⟨arr, s3.touch.blk b1 hgbF, b2⟩, (fun j hj => by cases hj), Nat.zero_le _, H.out.ne, ?_, (fun n h => by cases h)⟩
    · rw [List.length_append, Int.natCast_add, List.foldl_append]
      exact m3
    · intro h
      rcases s3.fresh gb h with h | h
      · exact H.out.nf h
      · have := H.out.gb_lt; omega)
  have S3 := hide (s3.b gb)
  clear m3 s3 hcall H
  go_wp2
  go_end0
  exact ⟨rfl, fp', D3.out, S3.out⟩

set_option maxHeartbeats 1000000 in
theorem tree_new (cs room : Nat) (hcs : cs ≤ 65536) (hroom : room ≤ 65536) (w : World) :
    Calls Try.prog 16 #[.int .i64 (room : Int), .int .i64 (cs : Int)] w fun e w' => ∃ gt gb, e = .returned (.pointer (some ⟨gt, 0, none⟩)) ∧ w.heap.size ≤ gt ∧ w.heap.size ≤ gb ∧ Tree w' gt gb cs room [] [] ∧ Touch w w' (fun _ => False) := by
  obtain ⟨i0, hi, hz0, hz1, hz2⟩ := info_parts info77
  have hmk : ∀ w : World, (Instr.makeSlice 67 (.int .i64 0) (.int .i64 (room : Int))).run Try.prog w = .ok (.slice (some ⟨w.heap.size, 0, none⟩) 0 room) (w.alloc (.cells (madeCells #[.int .u8 0, .bool false, .int .i64 0, .int .i64 0, .int .i64 0] (room * 5)) 77)) := by
    intro w
    have := run_make (P := Try.prog) w 67 77 i0 _ Try.underlying67 hi hz0 .i64 .i64 0 (room : Int) (Int.le_refl _) (by omega) (by rw [hz2]; omega) (by omega)
    have hz : (Value.agg #[.int .u8 0, .bool false, .int .i64 0, .int .i64 0, .int .i64 0]).cells = #[.int .u8 0, .bool false, .int .i64 0, .int .i64 0, .int .i64 0] := rfl
    rw [hz1, hz] at this
    simpa using this
  go_enter Try.func16, Try.ntmps16
  go_wp2
  go_ret
  have e1 : ∀ A : Obj, (w.alloc A).heap.size = w.heap.size + 1 := fun A => by simp
  refine ⟨w.heap.size + 1, w.heap.size, rfl, by omega, Nat.le_refl _, ⟨[], [], rfl, ⟨⟨nilV, nilV, ?_, .inl ⟨rfl, rfl, rfl, rfl, rfl, rfl⟩, by simp⟩, ⟨madeCells #[.int .u8 0, .bool false, .int .i64 0, .int .i64 0, .int .i64 0] (room * 5), ?_, size_madeCells _ _⟩, (fun j hj => by cases hj), Nat.zero_le _, by omega, by simp, (fun n h => by cases h)⟩⟩, ((Touch.refl w _).alloc _).alloc _⟩
  · unfold Tr
    rw [← e1 (.cells (madeCells #[.int .u8 0, .bool false, .int .i64 0, .int .i64 0, .int .i64 0] (room * 5)) 77)]
    exact heap_alloc_new _ _
  · rw [Below.heap_alloc _ _ _ (by rw [e1]; omega)]
    exact heap_alloc_new _ _
end Go.Proofs.Qxb6615701a
