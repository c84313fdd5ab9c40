/-
  The tree in memory.
-/
import Derived.Test.Qxb6615701aTuv
import Derived.Lib.JoinLaws
namespace Go.Proofs.Qxb6615701a
open Go Go.RowKit
set_option linter.unusedVariables false

/-- A node. -/
structure Nd where
  k : Nat
  dec : Bool
  a : Int
  s : Int
  e : Int

/-- What a tree has written: the full chunks; the one being written; whether there is one; the last place; the last decoded end. -/
structure PS where
  fin : List (List UInt8)
  cur : List UInt8
  st : Bool
  la : Int
  ld : Int

def PS.next (S : PS) : PS := { S with fin := if S.st then S.fin ++ [S.cur] else [], cur := [], st := true }
def PS.used (S : PS) : Int := if S.st then (S.fin.length : Int) + 1 else 0

abbrev nilV : Value := .slice none 0 0

/-- The tree's own block. -/
def Tr (w : World) (gt cs : Nat) (v2 v3 v5 v6 v7 v10 v11 : Value) : Prop :=
  w.heap[gt]? = some (.cells #[nilV, nilV, v2, v3, nilV, v5, v6, v7, .int .i64 (cs : Int), .int .i64 0, v10, v11] 71 (0, 0))

section
variable {w : World} {gt cs : Nat} {v2 v3 v5 v6 v7 v10 v11 : Value}
theorem Tr.lt (h : Tr w gt cs v2 v3 v5 v6 v7 v10 v11) : gt < w.heap.size := (Array.getElem?_eq_some_iff.1 h).1
theorem Tr.cells (h : Tr w gt cs v2 v3 v5 v6 v7 v10 v11) : w.cell? ⟨gt, 2, none⟩ = some v2 ∧ w.cell? ⟨gt, 3, none⟩ = some v3 ∧ w.cell? ⟨gt, 5, none⟩ = some v5 ∧ w.cell? ⟨gt, 6, none⟩ = some v6 ∧ w.cell? ⟨gt, 7, none⟩ = some v7 ∧ w.cell? ⟨gt, 8, none⟩ = some (.int .i64 (cs : Int)) ∧ w.cell? ⟨gt, 10, none⟩ = some v10 ∧ w.cell? ⟨gt, 11, none⟩ = some v11 := by
  unfold Tr at h
  simp [World.cell?, h]
theorem Tr.frozen (h : Tr w gt cs v2 v3 v5 v6 v7 v10 v11) (j : Nat) : w.frozen? ⟨gt, j, none⟩ = false := by
  unfold Tr at h
  simp [World.frozen?, h]
theorem Tr.touch {w' : World} {F : Nat → Prop} (h : Tr w gt cs v2 v3 v5 v6 v7 v10 v11) (ht : Touch w w' F) (hF : ¬ F gt) : Tr w' gt cs v2 v3 v5 v6 v7 v10 v11 := ht.blk h hF
theorem Tr.other (h : Tr w gt cs v2 v3 v5 v6 v7 v10 v11) (g o : Nat) (v : Value) (hne : g ≠ gt) : Tr (w.setCell ⟨g, o, none⟩ v) gt cs v2 v3 v5 v6 v7 v10 v11 := by
  unfold Tr at h ⊢
  simp only [World.setCell, Array.getElem?_modify, if_neg hne]
  exact h
theorem Tr.set2 (h : Tr w gt cs v2 v3 v5 v6 v7 v10 v11) (v : Value) : Tr (w.setCell ⟨gt, 2, none⟩ v) gt cs v v3 v5 v6 v7 v10 v11 := by
  unfold Tr at h ⊢
  simp [World.setCell, Array.getElem?_modify, h]
theorem Tr.set3 (h : Tr w gt cs v2 v3 v5 v6 v7 v10 v11) (v : Value) : Tr (w.setCell ⟨gt, 3, none⟩ v) gt cs v2 v v5 v6 v7 v10 v11 := by
  unfold Tr at h ⊢
  simp [World.setCell, Array.getElem?_modify, h]
theorem Tr.set5 (h : Tr w gt cs v2 v3 v5 v6 v7 v10 v11) (v : Value) : Tr (w.setCell ⟨gt, 5, none⟩ v) gt cs v2 v3 v v6 v7 v10 v11 := by
  unfold Tr at h ⊢
  simp [World.setCell, Array.getElem?_modify, h]
theorem Tr.set6 (h : Tr w gt cs v2 v3 v5 v6 v7 v10 v11) (v : Value) : Tr (w.setCell ⟨gt, 6, none⟩ v) gt cs v2 v3 v5 v v7 v10 v11 := by
  unfold Tr at h ⊢
  simp [World.setCell, Array.getElem?_modify, h]
theorem Tr.set7 (h : Tr w gt cs v2 v3 v5 v6 v7 v10 v11) (v : Value) : Tr (w.setCell ⟨gt, 7, none⟩ v) gt cs v2 v3 v5 v6 v v10 v11 := by
  unfold Tr at h ⊢
  simp [World.setCell, Array.getElem?_modify, h]
theorem Tr.set10 (h : Tr w gt cs v2 v3 v5 v6 v7 v10 v11) (v : Value) : Tr (w.setCell ⟨gt, 10, none⟩ v) gt cs v2 v3 v5 v6 v7 v v11 := by
  unfold Tr at h ⊢
  simp [World.setCell, Array.getElem?_modify, h]
theorem Tr.set11 (h : Tr w gt cs v2 v3 v5 v6 v7 v10 v11) (v : Value) : Tr (w.setCell ⟨gt, 11, none⟩ v) gt cs v2 v3 v5 v6 v7 v10 v := by
  unfold Tr at h ⊢
  simp [World.setCell, Array.getElem?_modify, h]
end

theorem Touch.grown {a b c : World} {F : Nat → Prop} (h : Touch a b F) (hg : b.grownBy c none) : Touch a c F :=
  h.trans ⟨hg.os, hg.tape, hg.output, hg.size, fun k hk _ => hg.block k hk (fun h => by cases h)⟩ (G := fun _ => False) (fun _ _ h => h.elim)

theorem Ch.other {w : World} {g cs : Nat} {l : List UInt8} (h : Ch w g cs l) (g' o : Nat) (v : Value) (hne : g' ≠ g) : Ch (w.setCell ⟨g', o, none⟩ v) g cs l :=
  h.touch ((Touch.refl w (· = g')).set g' o v (fun _ => rfl)) (fun e => hne e.symm)

theorem ch_new (w : World) (cs : Nat) : Ch (w.alloc (.cells (madeCells #[.int .u8 0] cs) 5)) w.heap.size cs [] :=
  ⟨_, mk_blk w _, size_madeCells _ _, Nat.zero_le _, rfl⟩

/-- The chunks: what the row of them holds, and what lies in each. 'fp': the blocks of it all. -/
def Row (w : World) (S : PS) (cs : Nat) (v5 v7 : Value) (fp : List Nat) : Prop :=
  (S.st = false ∧ S.fin = [] ∧ S.cur = [] ∧ v5 = nilV ∧ v7 = nilV ∧ fp = []) ∨
  (S.st = true ∧ ∃ (gc cap gl : Nat) (arr : Array Value) (fs : List (Nat × List UInt8)), v5 = .slice (some ⟨gc, 0, none⟩) (S.fin.length + 1) cap ∧ v7 = .slice (some ⟨gl, 0, none⟩) S.cur.length cs ∧
    w.heap[gc]? = some (.cells arr 22 (0, 0)) ∧ arr.size = cap ∧ S.fin.length + 1 ≤ cap ∧ cap ≤ maxLen ∧ fs.map (·.2) = S.fin ∧
    arr.toList.take (S.fin.length + 1) = fs.map (fun p => Value.slice (some ⟨p.1, 0, none⟩) p.2.length cs) ++ [.slice (some ⟨gl, 0, none⟩) 0 cs] ∧
    (∀ p ∈ fs, Ch w p.1 cs p.2) ∧ Ch w gl cs S.cur ∧ fp = gc :: gl :: fs.map (·.1) ∧ fp.Nodup)

theorem Row.touch {w w' : World} {F : Nat → Prop} {S : PS} {cs : Nat} {v5 v7 : Value} {fp : List Nat} (h : Row w S cs v5 v7 fp) (ht : Touch w w' F) (hF : ∀ k ∈ fp, ¬ F k) : Row w' S cs v5 v7 fp := by
  rcases h with h | ⟨h0, gc, cap, gl, arr, fs, h1, h2, h3, h4, h5, h6, h7, h8, h9, h10, h11, h12⟩
  · exact .inl h
  · refine .inr ⟨h0, gc, cap, gl, arr, fs, h1, h2, ht.blk h3 (hF gc (by simp [h11])), h4, h5, h6, h7, h8, fun p hp => (h9 p hp).touch ht (hF _ ?_), h10.touch ht (hF gl (by simp [h11])), h11, h12⟩
    rw [h11]
    exact List.mem_cons_of_mem _ (List.mem_cons_of_mem _ (List.mem_map_of_mem hp))
theorem Row.lt {w : World} {S : PS} {cs : Nat} {v5 v7 : Value} {fp : List Nat} (h : Row w S cs v5 v7 fp) : ∀ k ∈ fp, k < w.heap.size := by
  rcases h with ⟨_, _, _, _, _, rfl⟩ | ⟨h0, gc, cap, gl, arr, fs, h1, h2, h3, h4, h5, h6, h7, h8, h9, h10, rfl, h12⟩
  · intro k hk; cases hk
  · intro k hk
    simp only [List.mem_cons, List.mem_map] at hk
    rcases hk with rfl | rfl | ⟨p, hp, rfl⟩
    · exact (Array.getElem?_eq_some_iff.1 h3).1
    · exact h10.lt
    · exact (h9 p hp).lt

/-- A tree in memory: what it has written is S; its batch and its count are the values v2, v3. -/
def Mem (w : World) (gt cs : Nat) (v2 v3 : Value) (S : PS) (fp : List Nat) : Prop :=
  ∃ v5 v7, Tr w gt cs v2 v3 v5 (.int .i64 S.used) v7 (.int .i64 S.la) (.int .i64 S.ld) ∧ Row w S cs v5 v7 fp ∧ gt ∉ fp

theorem Mem.touch {w w' : World} {F : Nat → Prop} {gt cs : Nat} {v2 v3 : Value} {S : PS} {fp : List Nat} (h : Mem w gt cs v2 v3 S fp) (ht : Touch w w' F) (hg : ¬ F gt) (hF : ∀ k ∈ fp, ¬ F k) : Mem w' gt cs v2 v3 S fp := by
  obtain ⟨v5, v7, h1, h2, h3⟩ := h
  exact ⟨v5, v7, h1.touch ht hg, h2.touch ht hF, h3⟩
theorem Mem.lt {w : World} {gt cs : Nat} {v2 v3 : Value} {S : PS} {fp : List Nat} (h : Mem w gt cs v2 v3 S fp) : gt < w.heap.size ∧ ∀ k ∈ fp, k < w.heap.size := by
  obtain ⟨v5, v7, h1, h2, h3⟩ := h
  exact ⟨h1.lt, h2.lt⟩
end Go.Proofs.Qxb6615701a
