/-
  Memory: a block of bytes; a slice of bytes that came in.
-/
import Derived.Test.Qxb6615701aWidth
import Derived.Test.Qxb6615701aProg
import Derived.WalkKit
import Derived.WalkSpells
import Derived.WalkSmall
import Derived.WalkLawsBesides
import Derived.Deep.QuietTactic
import Derived.BigQuiet
import Derived.RegionTactic
import Derived.Deep.OwnRows
import Derived.Lib.UnsafeStr
import Derived.Lib.Strings
import Derived.OpenShut
import Derived.Outline
namespace Go.Proofs.Qxb6615701a
open Go Go.RowKit
set_option linter.unusedVariables false

theorem hide {p : Prop} (h : p) : Hid p := h
theorem unhide {p : Prop} (h : Hid p) : p := h

theorem info5 : (Try.prog.info? 5).map (fun i => (i.zero, i.size, i.bytes)) = some (some (.int .u8 0), 1, 1) := by kernel_rfl

/-- Block g holds the cells 'cur', none of them frozen. -/
def Blk (w : World) (g : Nat) (cur : Array Value) : Prop := w.heap[g]? = some (.cells cur 5 (0, 0))

theorem Blk.cell {w : World} {g : Nat} {cur : Array Value} (h : Blk w g cur) (j : Nat) : w.cell? ⟨g, j, none⟩ = cur[j]? := by
  unfold Blk at h
  simp [World.cell?, h]
theorem Blk.frozen {w : World} {g : Nat} {cur : Array Value} (h : Blk w g cur) (j : Nat) : w.frozen? ⟨g, j, none⟩ = false := by
  unfold Blk at h
  simp [World.frozen?, h]
theorem Blk.set {w : World} {g : Nat} {cur : Array Value} (h : Blk w g cur) (j : Nat) (v : Value) : Blk (w.setCell ⟨g, j, none⟩ v) g (cur.setIfInBounds j v) := by
  unfold Blk at h ⊢
  simp [World.setCell, Array.getElem?_modify, h]
theorem Blk.below {w w' : World} {g B : Nat} {cur : Array Value} (h : Blk w g cur) (hb : Below B w w') (hg : g < B) : Blk w' g cur := by
  unfold Blk at h ⊢
  rw [hb.block g hg]; exact h
theorem Blk.lt {w : World} {g : Nat} {cur : Array Value} (h : Blk w g cur) : g < w.heap.size := by
  unfold Blk at h
  exact (Array.getElem?_eq_some_iff.1 h).1

/-- From x on lie the bytes l. -/
def Src (w : World) (x : Addr) (l : List UInt8) : Prop := ∀ j (hj : j < l.length), w.cell? (x.add j) = some (.int .u8 (l[j]).toNat)
/-- Block g holds just the bytes l, none frozen. -/
def Bytes (w : World) (g : Nat) (l : List UInt8) : Prop := ∃ cur, Blk w g cur ∧ cur.toList = Lib.byteCells l

theorem Bytes.lt {w : World} {g : Nat} {l : List UInt8} (h : Bytes w g l) : g < w.heap.size := by
  obtain ⟨cur, h1, h2⟩ := h
  exact h1.lt
theorem Bytes.below {w w' : World} {g B : Nat} {l : List UInt8} (h : Bytes w g l) (hb : Below B w w') (hg : g < B) : Bytes w' g l := by
  obtain ⟨cur, h1, h2⟩ := h
  exact ⟨cur, h1.below hb hg, h2⟩
theorem Bytes.cell {w : World} {g : Nat} {l : List UInt8} (h : Bytes w g l) (j : Nat) (hj : j < l.length) : w.cell? ⟨g, j, none⟩ = some (.int .u8 (l[j]).toNat) := by
  obtain ⟨cur, h1, h2⟩ := h
  rw [h1.cell, ← Array.getElem?_toList, h2]
  simp [Lib.byteCells, hj]
theorem Bytes.src {w : World} {g : Nat} {l : List UInt8} (h : Bytes w g l) : Src w ⟨g, 0, none⟩ l := by
  intro j hj
  rw [Addr.add_lit, Nat.zero_add]
  exact h.cell j hj

theorem mk_below (w : World) (o : Obj) : Below w.heap.size w (w.alloc o) := (Below.refl _ _).alloc (Nat.le_refl _) _
theorem mk_blk (w : World) (cur : Array Value) : Blk (w.alloc (.cells cur 5)) w.heap.size cur := heap_alloc_new w _
theorem byteCells_length (l : List UInt8) : (Lib.byteCells l).length = l.length := by simp [Lib.byteCells]

/-- What is known of a slice of integers that came in: it is nil; or it leads to a row of 'cap' cells, the numbers 'zs', each fitting its kind. -/
def IsRow (k : IntKind) (w : World) (a : Option Addr) (len cap : Nat) (zs : List Int) : Prop :=
  (a = none ∧ len = 0 ∧ cap = 0 ∧ zs = []) ∨
  ∃ x, a = some x ∧ len ≤ cap ∧ cap ≤ maxLen ∧ zs.length = cap ∧ (∀ i, i < zs.length → w.cell? (x.add i) = some (.int k (zs.getD i 0))) ∧ ∀ n ∈ zs, (Lit.int k n).wf = true

theorem IsRow.len {k : IntKind} {w : World} {a : Option Addr} {len cap : Nat} {zs : List Int} (h : IsRow k w a len cap zs) : len ≤ maxLen := by
  rcases h with ⟨_, rfl, _⟩ | ⟨x, _, h1, h2, _⟩
  · exact Nat.zero_le _
  · omega

theorem IsRow.src {w : World} {a : Option Addr} {len cap : Nat} {zs : List Int} (h : IsRow .u8 w a len cap zs) :
    (a = none ∧ len = 0 ∧ cap = 0) ∨ ∃ (x : Addr) (l : List UInt8), a = some x ∧ len = l.length ∧ l.length ≤ cap ∧ Src w x l := by
  rcases h with ⟨h1, h2, h3, _⟩ | ⟨x, h1, h2, h3, h4, h5, h6⟩
  · exact .inl ⟨h1, h2, h3⟩
  · have hl : ((zs.take len).map fun z => UInt8.ofNat z.toNat).length = len := by simp; omega
    refine .inr ⟨x, (zs.take len).map fun z => UInt8.ofNat z.toNat, h1, hl.symm, by omega, fun j hj => ?_⟩
    have hj' : j < zs.length := by omega
    rw [h5 j hj']
    have hw := bounds_u8 (h6 zs[j] (List.getElem_mem hj'))
    simp only [List.getElem_map, List.getElem_take, UInt8.toNat_ofNat']
    congr 2
    simp only [List.getD, List.getElem?_eq_getElem hj', Option.getD_some]
    omega
end Go.Proofs.Qxb6615701a
