/-
  cloneBytes (11), told over bytes.
-/
import Derived.Test.Qxb6614906aDec
namespace Go.Proofs.Qxb6614906a
open Go Go.RowKit
set_option linter.unusedVariables false

/-- From x on lie the bytes l. -/
def Src (w : World) (x : Addr) (l : List UInt8) : Prop := ∀ j (hj : j < l.length), w.cell? (x.add j) = some (.int .u8 (l[j]).toNat)
/-- Block g holds just the bytes l, none frozen. -/
def Bytes (w : World) (g : Nat) (l : List UInt8) : Prop := ∃ cur, Blk w g cur ∧ cur.toList = Lib.byteCells l

theorem Bytes.full {w : World} {g : Nat} {l : List UInt8} (h : Bytes w g l) : Full w (.slice (some ⟨g, 0, none⟩) l.length l.length) l := by
  obtain ⟨cur, h1, h2⟩ := h
  exact .inr ⟨g, cur, rfl, h1, h2⟩
theorem Bytes.lt {w : World} {g : Nat} {l : List UInt8} (h : Bytes w g l) : g < w.heap.size := by
  obtain ⟨cur, h1, h2⟩ := h
  exact h1.lt
theorem Bytes.below {w w' : World} {g B : Nat} {l : List UInt8} (h : Bytes w g l) (hb : Below B w w') (hg : g < B) : Bytes w' g l := by
  obtain ⟨cur, h1, h2⟩ := h
  exact ⟨cur, h1.below hb hg, h2⟩
theorem Bytes.cell {w : World} {g : Nat} {l : List UInt8} (h : Bytes w g l) (j : Nat) (hj : j < l.length) : w.cell? ⟨g, j, none⟩ = some (.int .u8 (l[j]).toNat) := by
  obtain ⟨cur, h1, h2⟩ := h
  rw [h1.cell, ← Array.getElem?_toList, h2]
  simp [Lib.byteCells, hj]
theorem Bytes.src {w : World} {g : Nat} {l : List UInt8} (h : Bytes w g l) : Src w ⟨g, 0, none⟩ l := by
  intro j hj
  rw [Addr.add_lit, Nat.zero_add]
  exact h.cell j hj

theorem made_bytes {w w' : World} {l : List UInt8} (h : Made w w' l.length (l.map fun c => (c.toNat : Int))) : Bytes w' w.heap.size l ∧ Below w.heap.size w w' := by
  obtain ⟨cur, h1, h2, h3, h4⟩ := h
  refine ⟨⟨cur, h1, ?_⟩, h4⟩
  refine List.ext_getElem? fun j => ?_
  by_cases hj : j < l.length
  · rw [Array.getElem?_toList, h3 j hj]
    simp [Lib.byteCells, hj]
  · rw [List.getElem?_eq_none (by simp; omega), List.getElem?_eq_none (by simp [Lib.byteCells]; omega)]

theorem clone_src (x : Addr) (cap : Nat) (l : List UInt8) (w : World) (h : Src w x l) (hc : l.length ≤ cap) (hl : l.length ≤ 1048576) :
    Calls Try.prog 11 #[.slice (some x) l.length cap] w fun e w' => e = .returned (.slice (some ⟨w.heap.size, 0, none⟩) l.length l.length) ∧ Bytes w' w.heap.size l ∧ Below w.heap.size w w' := by
  by_cases h0 : l.length = 0
  · have e : l = [] := List.eq_nil_of_length_eq_zero h0
    subst e
    refine (clone_zero x cap w).mono fun e w' ⟨he, hm⟩ => ⟨he, ?_⟩
    exact made_bytes (l := []) hm
  · have hc0 := h 0 (by omega)
    obtain ⟨b, off, spot⟩ := x
    have hs : spot = none := by simpa [Addr.add] using World.cell?_spot hc0
    subst hs
    have hb : b < w.heap.size := World.block_lt_of_cell? w _ hc0
    refine (clone_some b off l.length cap (l.map fun c => (c.toNat : Int)) (by simp) (by omega) hl hc w hb (fun i hi => ?_)).mono fun e w' ⟨he, hm⟩ => ⟨he, made_bytes hm⟩
    have := h i hi
    rw [Addr.add_lit] at this
    rw [this]
    simp [List.getD, hi]
end Go.Proofs.Qxb6614906a
