/-
  The tree's memory: chunks of bytes; what a step may touch. AppendUvarint (42) into a chunk with room.
-/
import Derived.Test.Qxb6615701aBase
import Derived.ArgAppend
import Derived.Lib.Varint
import Derived.Lib.VarintMem
namespace Go.Proofs.Qxb6615701a
open Go Go.RowKit
set_option linter.unusedVariables false

/-- From w to w' the blocks of F alone have turned; new ones may have come. -/
structure Touch (w w' : World) (F : Nat → Prop) : Prop where
  os : w'.os = w.os
  tape : w'.tape = w.tape
  output : w'.output = w.output
  size : w.heap.size ≤ w'.heap.size
  block : ∀ k, k < w.heap.size → ¬ F k → w'.heap[k]? = w.heap[k]?

theorem Touch.refl (w : World) (F : Nat → Prop) : Touch w w F := ⟨rfl, rfl, rfl, Nat.le_refl _, fun _ _ _ => rfl⟩
theorem Touch.trans {a b c : World} {F G : Nat → Prop} (h : Touch a b F) (k : Touch b c G) (hG : ∀ i, i < a.heap.size → G i → F i) : Touch a c F :=
  ⟨k.os.trans h.os, k.tape.trans h.tape, k.output.trans h.output, Nat.le_trans h.size k.size, fun i hi hn => (k.block i (Nat.lt_of_lt_of_le hi h.size) (fun hg => hn (hG i hi hg))).trans (h.block i hi hn)⟩
theorem Touch.mono {a b : World} {F G : Nat → Prop} (h : Touch a b F) (hG : ∀ i, i < a.heap.size → F i → G i) : Touch a b G :=
  ⟨h.os, h.tape, h.output, h.size, fun i hi hn => h.block i hi (fun hf => hn (hG i hi hf))⟩
theorem Touch.alloc {a b : World} {F : Nat → Prop} (h : Touch a b F) (o : Obj) : Touch a (b.alloc o) F :=
  h.trans ⟨rfl, rfl, rfl, by simp, fun k hk _ => Below.heap_alloc b o k hk⟩ (G := fun _ => False) (fun _ _ h => h.elim)
theorem Touch.drew {a b : World} {F : Nat → Prop} (h : Touch a b F) (n : Nat) : Touch a (b.drewN n) F :=
  ⟨h.os, h.tape, h.output, h.size, h.block⟩
theorem Touch.set {a b : World} {F : Nat → Prop} (h : Touch a b F) (g o : Nat) (v : Value) (hg : g < a.heap.size → F g) : Touch a (b.setCell ⟨g, o, none⟩ v) F := by
  refine ⟨h.os, h.tape, h.output, ?_, fun k hk hn => ?_⟩
  · simp only [World.setCell, Array.size_modify]; exact h.size
  · have hne : g ≠ k := fun e => hn (e ▸ hg (e ▸ hk))
    simp only [World.setCell, Array.getElem?_modify, if_neg hne]
    exact h.block k hk hn
theorem Touch.cell {a b : World} {F : Nat → Prop} (h : Touch a b F) {g o : Nat} {v : Value} (hc : a.cell? ⟨g, o, none⟩ = some v) (hF : ¬ F g) : b.cell? ⟨g, o, none⟩ = some v := by
  have hlt := World.block_lt_of_cell? a _ hc
  have := h.block g hlt hF
  simp only [World.cell?] at hc ⊢
  rw [this]; exact hc
theorem Touch.blk {a b : World} {F : Nat → Prop} (h : Touch a b F) {g : Nat} {o : Obj} (hc : a.heap[g]? = some o) (hF : ¬ F g) : b.heap[g]? = some o := by
  rw [h.block g (Array.getElem?_eq_some_iff.1 hc).1 hF]; exact hc

/-- A chunk of cs bytes in block g, the first of which are l. -/
def Ch (w : World) (g cs : Nat) (l : List UInt8) : Prop := ∃ cur, Blk w g cur ∧ cur.size = cs ∧ l.length ≤ cs ∧ cur.toList.take l.length = Lib.byteCells l

theorem Ch.lt {w : World} {g cs : Nat} {l : List UInt8} (h : Ch w g cs l) : g < w.heap.size := by
  obtain ⟨cur, h1, _⟩ := h
  exact h1.lt
theorem Ch.len {w : World} {g cs : Nat} {l : List UInt8} (h : Ch w g cs l) : l.length ≤ cs := by
  obtain ⟨cur, _, _, h1, _⟩ := h
  exact h1
theorem Ch.touch {w w' : World} {F : Nat → Prop} {g cs : Nat} {l : List UInt8} (h : Ch w g cs l) (ht : Touch w w' F) (hF : ¬ F g) : Ch w' g cs l := by
  obtain ⟨cur, h1, h2⟩ := h
  exact ⟨cur, ht.blk h1 hF, h2⟩
theorem Ch.alloc {w : World} {g cs : Nat} {l : List UInt8} (h : Ch w g cs l) (o : Obj) : Ch (w.alloc o) g cs l := h.touch ((Touch.refl w (fun _ => False)).alloc o) (fun h => h)
theorem Ch.cells {w : World} {g cs : Nat} {l : List UInt8} (h : Ch w g cs l) : ∀ j u, (Lib.byteCells l)[j]? = some u → w.cell? ⟨g, 0 + j, none⟩ = some u := by
  obtain ⟨cur, h1, h2, h3, h4⟩ := h
  intro j u hj
  have hlt : j < l.length := by
    have := (List.getElem?_eq_some_iff.1 hj).1
    rwa [byteCells_length] at this
  rw [Nat.zero_add, h1.cell, ← hj, ← h4, List.getElem?_take, if_pos hlt, Array.getElem?_toList]
theorem Ch.some {w : World} {g cs : Nat} {l : List UInt8} (h : Ch w g cs l) (j : Nat) (hj : j < cs) : (w.cell? ⟨g, j, none⟩).isSome = true ∧ w.frozen? ⟨g, j, none⟩ = false := by
  obtain ⟨cur, h1, h2, h3, h4⟩ := h
  rw [h1.cell, h1.frozen]
  exact ⟨by rw [Array.getElem?_eq_getElem (by omega)]; rfl, rfl⟩
theorem Ch.cut {w : World} {g cs : Nat} {l m : List UInt8} (h : Ch w g cs (l ++ m)) : Ch w g cs l := by
  obtain ⟨cur, h1, h2, h3, h4⟩ := h
  rw [List.length_append] at h3
  refine ⟨cur, h1, h2, by omega, ?_⟩
  have : cur.toList.take l.length = (cur.toList.take (l ++ m).length).take l.length := by rw [List.take_take, List.length_append]; congr 1; omega
  rw [this, h4]
  simp [Lib.byteCells]

theorem ch_push {w : World} {g cs : Nat} {l : List UInt8} {c : Nat} (h : Ch w g cs l) (hr : l.length < cs) (hc : c < 256) : Ch (w.setCell ⟨g, l.length, none⟩ (.int .u8 (c : Int))) g cs (l ++ [c.toUInt8]) := by
  obtain ⟨cur, h1, h2, h3, h4⟩ := h
  refine ⟨_, h1.set _ _, by simpa using h2, by rw [List.length_append, List.length_singleton]; omega, ?_⟩
  rw [Lib.byteCells_snoc l hc, ← h4, List.length_append, List.length_singleton, Array.toList_setIfInBounds]
  rw [List.take_succ_eq_append_getElem (by simp; omega)]
  congr 1
  · rw [List.take_set_of_le (Nat.le_refl _)]
  · simp

theorem new1 (W : World) (z : Int) : ∀ j u, [Value.int .u8 z][j]? = some u → (W.alloc (.cells #[.int .u8 z] 5)).cell? ((⟨W.heap.size, 0, none⟩ : Addr).add j) = some u := by
  intro j u hj
  match j, hj with
  | 0, hj => simp at hj; subst hj; simp [Addr.add]
theorem one1 (z : Int) : ∀ u ∈ [Value.int .u8 z], u.oneCell' = true := by intro u hu; simp at hu; subst hu; rfl
end Go.Proofs.Qxb6615701a
