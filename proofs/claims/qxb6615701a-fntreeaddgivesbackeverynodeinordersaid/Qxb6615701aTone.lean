/-
  The law of the nodes that come back (5): what its walk leans on.
-/
import Derived.Test.Qxb6615701aTlaw6
import Derived.Test.Qxb6615701aTdec
import Derived.Test.Qxb6615701aTbn
import Derived.Deep.AppendLies
import Derived.Laws.OwnMore
namespace Go.Proofs.Qxb6615701a
open Go Go.RowKit
set_option linter.unusedVariables false

/-- A tree newer than w0. -/
structure One (w0 w : World) (gt gb : Nat) (fp : List Nat) : Prop where
  touch : Touch w0 w (fun _ => False)
  far : ∀ k, (k = gt ∨ k = gb ∨ k ∈ fp) → w0.heap.size ≤ k ∧ k < w.heap.size

theorem One.step {w0 w w' : World} {gt gb : Nat} {fp fp' : List Nat} (h : One w0 w gt gb fp) (s : StepB w w' gt gb fp fp') (hlt : ∀ k ∈ fp', k < w'.heap.size) : One w0 w' gt gb fp' := by
  have hsz := s.touch.size
  refine ⟨h.touch.trans s.touch (fun i hi hk => absurd (h.far i hk).1 (by omega)), ?_⟩
  rintro k (hk | hk | hk)
  · have := h.far k (.inl hk); omega
  · have := h.far k (.inr (.inl hk)); omega
  · refine ⟨?_, hlt k hk⟩
    rcases s.fresh k hk with h1 | h1
    · exact (h.far k (.inr (.inr h1))).1
    · have := h.touch.size; omega
theorem One.more {w0 w w' : World} {gt gb : Nat} {fp : List Nat} (h : One w0 w gt gb fp) (s : Touch w w' (fun _ => False)) : One w0 w' gt gb fp :=
  ⟨h.touch.trans s (fun _ _ h => h), fun k hk => ⟨(h.far k hk).1, by have := (h.far k hk).2; have := s.size; omega⟩⟩

theorem oneB (l : List UInt8) : ∀ u ∈ Lib.byteCells l, u.oneCell' = true := by
  intro u hu
  simp only [Lib.byteCells, List.mem_map] at hu
  obtain ⟨c, _, rfl⟩ := hu
  rfl
theorem newsB {w : World} {g cs : Nat} {l : List UInt8} (h : Ch w g cs l) : ∀ j u, (Lib.byteCells l)[j]? = some u → w.cell? ((⟨g, 0, none⟩ : Addr).add j) = some u := by
  intro j u hj
  rw [Addr.add_lit]
  exact h.cells j u hj
/-- Behind an append to the stream. -/
theorem after_app {w wr w1 : World} {v v' : Value} {n m : Nat} {l c : List UInt8} (hown : wr.ownsRow w.heap.size 5 1 v n (Lib.byteCells l)) (ht : Touch w wr (fun _ => False)) (h1 : w1.ownsRow w.heap.size 5 1 v' (n + m) (Lib.byteCells l ++ Lib.byteCells c)) (hg : wr.grownBy w1 v.ownBlock) :
    w1.ownsRow w.heap.size 5 1 v' (n + m) (Lib.byteCells (l ++ c)) ∧ Touch w w1 (fun _ => False) := by
  refine ⟨?_, ?_⟩
  · have e : Lib.byteCells (l ++ c) = Lib.byteCells l ++ Lib.byteCells c := by simp [Lib.byteCells]
    rw [e]; exact h1
  · refine ⟨hg.os.trans ht.os, hg.tape.trans ht.tape, hg.output.trans ht.output, Nat.le_trans ht.size hg.size, fun k hk hn => ?_⟩
    rw [hg.block k (Nat.lt_of_lt_of_le hk ht.size) (fun h => ?_)]
    · exact ht.block k hk hn
    · have := (hown.lt k h.symm).1
      omega

/-- What a row that the call owns looks like. -/
theorem form {w : World} {base : Nat} {e : TypeId} {size : Nat} {v : Value} {n : Nat} {xs : List Value} (h : w.ownsRow base e size v n xs) : ∃ ao cap, v = .slice ao n cap := by
  rcases h.2 with ⟨rfl, rfl⟩ | ⟨g, cap, _, rfl, _⟩
  · exact ⟨none, 0, rfl⟩
  · exact ⟨_, cap, rfl⟩
/-- The stream as it is handed on. -/
theorem toCh {w : World} {base : Nat} {v : Value} {l : List UInt8} (h : w.ownsRow base 5 1 v l.length (Lib.byteCells l)) : ∃ ao cap, v = .slice ao l.length cap ∧ (l = [] ∨ ∃ g, ao = some ⟨g, 0, none⟩ ∧ Ch w g cap l ∧ cap ≤ maxLen) := by
  rcases h.2 with ⟨rfl, h0⟩ | ⟨g, cap, cur, rfl, _, hg, h1, h2, h3, h4⟩
  · rw [h0]
    exact ⟨none, 0, rfl, .inl (List.eq_nil_of_length_eq_zero h0)⟩
  · rw [Nat.mul_one] at h3 h4
    exact ⟨_, cap, rfl, .inr ⟨g, rfl, ⟨cur, hg, h3, h1, h4⟩, h2⟩⟩
theorem cellsOf_at (P : List Nd) : ∀ (j : Nat) (hj : j < P.length) (c : Nat), c < 5 → (cellsOf P)[j * 5 + c]? = (P[j]).cells[c]? := by
  induction P with
  | nil => intro j hj; cases hj
  | cons n r ih =>
    intro j hj c hc
    have e : cellsOf (n :: r) = n.cells ++ cellsOf r := rfl
    have hl : n.cells.length = 5 := rfl
    rw [e]
    cases j with
    | zero => rw [List.getElem?_append_left (by omega)]; simp
    | succ j =>
      rw [List.getElem?_append_right (by omega), hl]
      have : (j + 1) * 5 + c - 5 = j * 5 + c := by omega
      rw [this, ih j (by simpa using hj) c hc]
      rfl
/-- A node of the row that came back. -/
theorem got_at {w : World} {base : Nat} {v : Value} {P : List Nd} (h : w.ownsRow base 36 5 v P.length (cellsOf P)) (j : Nat) (hj : j < P.length) : ∃ g cap, v = .slice (some ⟨g, 0, none⟩) P.length cap ∧ g < w.heap.size ∧ NodeAt w g (j * 5) P[j] := by
  obtain ⟨g, cap, rfl, _, hlt⟩ := h.form (by omega)
  refine ⟨g, cap, rfl, hlt, ?_⟩
  have k : ∀ c, c < 5 → w.cell? ⟨g, j * 5 + c, none⟩ = (P[j]).cells[c]? := fun c hc => by
    rw [h.cellAt (j * 5 + c) (by omega), cellsOf_at P j hj c hc]
  exact ⟨k 0 (by omega), k 1 (by omega), k 2 (by omega), k 3 (by omega), k 4 (by omega)⟩
theorem nodes_split {L pre bs : List Nd} (h : L = pre ++ bs) : (∀ q (h : q < pre.length) (h' : q < L.length), L[q] = pre[q]) ∧ ∀ r (h : r < bs.length) (h' : pre.length + r < L.length), L[pre.length + r] = bs[r] := by
  subst h
  exact ⟨fun q h h' => List.getElem_append_left h, fun r h h' => by rw [List.getElem_append_right (by omega)]; simp⟩
end Go.Proofs.Qxb6615701a
