/-
  A slice of bytes that came in.
-/
import Derived.Test.Qxb6614906aCopy
import Derived.OpenShut
namespace Go.Proofs.Qxb6614906a
open Go Go.RowKit
set_option linter.unusedVariables false

/-- What is known of a slice of integers that came in: it is nil; or it leads to a row of 'cap' cells, the numbers 'zs', each fitting its kind. -/
def IsRow (k : IntKind) (w : World) (a : Option Addr) (len cap : Nat) (zs : List Int) : Prop :=
  (a = none ∧ len = 0 ∧ cap = 0 ∧ zs = []) ∨
  ∃ x, a = some x ∧ len ≤ cap ∧ cap ≤ maxLen ∧ zs.length = cap ∧ (∀ i, i < zs.length → w.cell? (x.add i) = some (.int k (zs.getD i 0))) ∧ ∀ n ∈ zs, (Lit.int k n).wf = true

theorem IsRow.len {k : IntKind} {w : World} {a : Option Addr} {len cap : Nat} {zs : List Int} (h : IsRow k w a len cap zs) : len ≤ maxLen := by
  rcases h with ⟨_, rfl, _⟩ | ⟨x, _, h1, h2, _⟩
  · exact Nat.zero_le _
  · omega

theorem IsRow.src {w : World} {a : Option Addr} {len cap : Nat} {zs : List Int} (h : IsRow .u8 w a len cap zs) :
    (a = none ∧ len = 0 ∧ cap = 0) ∨ ∃ (x : Addr) (l : List UInt8), a = some x ∧ len = l.length ∧ l.length ≤ cap ∧ Src w x l := by
  rcases h with ⟨h1, h2, h3, _⟩ | ⟨x, h1, h2, h3, h4, h5, h6⟩
  · exact .inl ⟨h1, h2, h3⟩
  · have hl : ((zs.take len).map fun z => UInt8.ofNat z.toNat).length = len := by simp; omega
    refine .inr ⟨x, (zs.take len).map fun z => UInt8.ofNat z.toNat, h1, hl.symm, by omega, fun j hj => ?_⟩
    have hj' : j < zs.length := by omega
    rw [h5 j hj']
    have hw := bounds_u8 (h6 zs[j] (List.getElem_mem hj'))
    simp only [List.getElem_map, List.getElem_take, UInt8.toNat_ofNat']
    congr 2
    simp only [List.getD, List.getElem?_eq_getElem hj', Option.getD_some]
    omega
end Go.Proofs.Qxb6614906a
