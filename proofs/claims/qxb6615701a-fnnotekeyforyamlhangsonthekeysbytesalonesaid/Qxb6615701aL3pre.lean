/-
  Towards the walk of FnNoteKeyForYAMLHangsOnTheKeysBytesAlone (function 3).
-/
import Derived.Test.Qxb6615701aYn
namespace Go.Proofs.Qxb6615701a
open Go Go.RowKit
set_option linter.unusedVariables false

/-- What is known of a slice of bytes: where it has an element it lies in a block. -/
def Sl (w : World) (ao : Option Addr) (l : List UInt8) : Prop := 0 < l.length → ∃ b off, ao = some ⟨b, off, none⟩ ∧ b < w.heap.size ∧ ∀ j (hj : j < l.length), w.cell? ⟨b, off + j, none⟩ = some (.int .u8 (l[j]).toNat)

theorem sl_of_src {w : World} {x : Addr} {l : List UInt8} (h : Src w x l) : Sl w (some x) l := by
  intro h0
  have hc0 := h 0 h0
  obtain ⟨b, off, spot⟩ := x
  have hs : spot = none := by simpa [Addr.add] using World.cell?_spot hc0
  subst hs
  refine ⟨b, off, rfl, World.block_lt_of_cell? w _ hc0, fun j hj => ?_⟩
  have := h j hj
  rwa [Addr.add_lit] at this
theorem sl_nil (w : World) : Sl w none [] := by intro h; exact absurd h (Nat.lt_irrefl _)
theorem Sl.below {w w' : World} {ao : Option Addr} {l : List UInt8} (h : Sl w ao l) (hb : Below w.heap.size w w') : Sl w' ao l := by
  intro h0
  obtain ⟨b, off, h1, h2, h3⟩ := h h0
  exact ⟨b, off, h1, Nat.lt_of_lt_of_le h2 hb.size, fun j hj => (hb.cell (p := ⟨b, off + j, none⟩) h2).trans (h3 j hj)⟩

/-- Block g of N cells holds the first j bytes of P. -/
def Fill (w : World) (g N : Nat) (P : List UInt8) (j : Nat) : Prop := ∃ cur, Blk w g cur ∧ cur.size = N ∧ ∀ i, i < j → cur[i]? = some (.int .u8 (P.getD i 0).toNat)

theorem fill_new (w : World) (N : Nat) (P : List UInt8) : Fill (w.alloc (.cells (madeCells #[.int .u8 0] N) 5)) w.heap.size N P 0 :=
  ⟨_, mk_blk _ _, size_madeCells _ _, fun i h => absurd h (Nat.not_lt_zero _)⟩

theorem Fill.step {w : World} {g N : Nat} {P : List UInt8} {j : Nat} (h : Fill w g N P j) (hj : j < N) : Fill (w.setCell ⟨g, j, none⟩ (.int .u8 (P.getD j 0).toNat)) g N P (j + 1) := by
  obtain ⟨cur, h1, h2, h3⟩ := h
  refine ⟨_, h1.set j _, by simpa using h2, fun i hi => ?_⟩
  rw [Array.getElem?_setIfInBounds]
  by_cases e : j = i
  · subst e; rw [if_pos rfl, if_pos (by omega)]
  · rw [if_neg e]; exact h3 i (by omega)

theorem Fill.cell {w : World} {g N : Nat} {P : List UInt8} {j k : Nat} (h : Fill w g N P j) (hk : k < N) : ∃ v, w.cell? ⟨g, k, none⟩ = some v := by
  obtain ⟨cur, h1, h2, h3⟩ := h
  exact ⟨cur[k]'(by omega), by rw [h1.cell]; exact Array.getElem?_eq_getElem (by omega)⟩
theorem Fill.frozen {w : World} {g N : Nat} {P : List UInt8} {j : Nat} (h : Fill w g N P j) (k : Nat) : w.frozen? ⟨g, k, none⟩ = false := by
  obtain ⟨cur, h1, h2, h3⟩ := h
  exact h1.frozen k

theorem Fill.done {w : World} {g : Nat} {P : List UInt8} (h : Fill w g P.length P P.length) : Bytes w g P := by
  obtain ⟨cur, h1, h2, h3⟩ := h
  refine ⟨cur, h1, ?_⟩
  refine List.ext_getElem? fun j => ?_
  by_cases hj : j < P.length
  · rw [Array.getElem?_toList, h3 j hj]
    simp [Lib.byteCells, hj]
  · rw [List.getElem?_eq_none (by simp; omega), List.getElem?_eq_none (by simp [Lib.byteCells]; omega)]

/-- The three parts of the whole. -/
theorem whole_a (a b c : List UInt8) (k : Nat) (h : k < a.length) : (a ++ b ++ c).getD k 0 = a[k] := by
  simp only [List.getD]
  rw [List.append_assoc, List.getElem?_append_left h]
  simp [h]
theorem whole_b (a b c : List UInt8) (k : Nat) (h : k < b.length) : (a ++ b ++ c).getD (a.length + k) 0 = b[k] := by
  simp only [List.getD]
  rw [List.append_assoc, List.getElem?_append_right (by omega), show a.length + k - a.length = k by omega, List.getElem?_append_left h]
  simp [h]
theorem whole_c (a b c : List UInt8) (k : Nat) (h : k < c.length) : (a ++ b ++ c).getD (a.length + b.length + k) 0 = c[k] := by
  simp only [List.getD]
  rw [List.getElem?_append_right (by rw [List.length_append]; omega), List.length_append]
  rw [show a.length + b.length + k - (a.length + b.length) = k by omega]
  simp [h]
theorem span_whole (a b c : List UInt8) (k e : Nat) (he : e ≤ b.length) : span (a ++ b ++ c) (k + a.length) (e + a.length) = span b k e := by
  unfold span
  rw [List.append_assoc, Nat.add_comm k, ← List.drop_drop, List.drop_left, show e + a.length - (a.length + k) = e - k by omega]
  by_cases h : k ≤ b.length
  · rw [List.drop_append_of_le_length h, List.take_append_of_le_length (by rw [List.length_drop]; omega)]
  · rw [show e - k = 0 by omega, List.take_zero, List.take_zero]

set_option maxHeartbeats 1600000 in
set_option maxRecDepth 100000 in
theorem l3_out (a0 a1 a2 : Option Addr) (n0 n1 n2 c0 c1 c2 : Nat) (key colon : Int) (w : World) (h0 : n0 ≤ maxLen) (h1 : n1 ≤ maxLen) (h2 : n2 ≤ maxLen) (h : 1048576 < n0 + n1 + n2 ∨ key < 0 ∨ colon < key ∨ (n1 : Int) < colon) :
    Calls Try.prog 3 #[.slice a0 n0 c0, .slice a1 n1 c1, .slice a2 n2 c2, .int .i64 key, .int .i64 colon] w fun e w' => e = .returned (.bool true) ∧ Below w.heap.size w w' := by
  unfold maxLen at h0 h1 h2
  by_cases g0 : 1048576 < n0
  · go_enter Try.func3, Try.ntmps3
    go_wp2
    go_ret
    exact ⟨rfl, Below.refl _ _⟩
  by_cases g1 : 1048576 < n1
  · go_enter Try.func3, Try.ntmps3
    go_wp2
    go_ret
    exact ⟨rfl, Below.refl _ _⟩
  by_cases g2 : 1048576 < n0 + n1
  · go_enter Try.func3, Try.ntmps3
    go_wp2
    go_ret
    exact ⟨rfl, Below.refl _ _⟩
  by_cases g3 : 1048576 < n2
  · go_enter Try.func3, Try.ntmps3
    go_wp2
    go_ret
    exact ⟨rfl, Below.refl _ _⟩
  by_cases g4 : 1048576 < n0 + n1 + n2
  · go_enter Try.func3, Try.ntmps3
    go_wp2
    go_ret
    exact ⟨rfl, Below.refl _ _⟩
  by_cases g5 : key < 0
  · go_enter Try.func3, Try.ntmps3
    go_wp2
    go_ret
    exact ⟨rfl, Below.refl _ _⟩
  by_cases g6 : colon < key
  · go_enter Try.func3, Try.ntmps3
    go_wp2
    go_ret
    exact ⟨rfl, Below.refl _ _⟩
  · have g7 : (n1 : Int) < colon := by omega
    go_enter Try.func3, Try.ntmps3
    go_wp2
    go_ret
    exact ⟨rfl, Below.refl _ _⟩
end Go.Proofs.Qxb6615701a
