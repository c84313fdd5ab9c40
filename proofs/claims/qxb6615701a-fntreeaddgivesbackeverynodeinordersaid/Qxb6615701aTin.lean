/-
  The nodes that came in.
-/
import Derived.Test.Qxb6615701aTok
import Derived.Deep.Slices
import Derived.ChangeSame
namespace Go.Proofs.Qxb6615701a
open Go Go.RowKit Go.ChangeShapes Go.WideShapes
set_option linter.unusedVariables false

def Nd.wf (n : Nd) : Prop := n.k < 256 ∧ (-9223372036854775808 ≤ n.a ∧ n.a ≤ 9223372036854775807) ∧ (-9223372036854775808 ≤ n.s ∧ n.s ≤ 9223372036854775807) ∧ (-9223372036854775808 ≤ n.e ∧ n.e ≤ 9223372036854775807)

/-- A slice of nodes that came in: nil, or a row from cell o of block b on. -/
def Nodes (w : World) (a : Option Addr) (len : Nat) (L : List Nd) : Prop :=
  L.length = len ∧ (∀ n ∈ L, n.wf) ∧ (len = 0 ∨ ∃ b o, a = some ⟨b, o, none⟩ ∧ ∀ j (hj : j < L.length), NodeAt w b (o + j * 5) L[j])

section
variable {H : Type} {enc : TypeId × Value → H} {P : Program} {w : World} {base : Nat} {spare : Nat → Bool} {held : Bool}
theorem trod_struct5 {t : TypeId} {f0 f1 f2 f3 f4 : Field} {fuel : Nat} {cs : List Value} {x : DataW H × List MemPlace} (ht : P.underlying t = some (.struct #[f0, f1, f2, f3, f4])) (h : DataW.trod enc P w base spare held fuel t cs = some x) :
    ∃ y0 y1 y2 y3 y4 n, cs.length = P.cellsOf t ∧ DataW.trod enc P w base spare held n f0.type ((cs.drop f0.offset).take (P.cellsOf f0.type)) = some y0 ∧
      DataW.trod enc P w base spare held n f1.type ((cs.drop f1.offset).take (P.cellsOf f1.type)) = some y1 ∧ DataW.trod enc P w base spare held n f2.type ((cs.drop f2.offset).take (P.cellsOf f2.type)) = some y2 ∧
      DataW.trod enc P w base spare held n f3.type ((cs.drop f3.offset).take (P.cellsOf f3.type)) = some y3 ∧ DataW.trod enc P w base spare held n f4.type ((cs.drop f4.offset).take (P.cellsOf f4.type)) = some y4 := by
  obtain ⟨xs, n, _, rfl, hl, hlen, hf⟩ := DataW.trod_struct ht h
  match xs, hlen with
  | [y0, y1, y2, y3, y4], _ => exact ⟨y0, y1, y2, y3, y4, n, hl, by simpa using hf 0 f0 rfl, by simpa using hf 1 f1 rfl, by simpa using hf 2 f2 rfl, by simpa using hf 3 f3 rfl, by simpa using hf 4 f4 rfl⟩
end

instance : Inhabited Nd := ⟨⟨0, false, 0, 0, 0⟩⟩

theorem cells5 {w : World} {base : Nat} {a : Addr} {cs : List Value} (h : w.cells? base a 5 = some cs) : ∃ c0 c1 c2 c3 c4, cs = [c0, c1, c2, c3, c4] ∧ w.cell? (a.add 0) = some c0 ∧ w.cell? (a.add 1) = some c1 ∧ w.cell? (a.add 2) = some c2 ∧ w.cell? (a.add 3) = some c3 ∧ w.cell? (a.add 4) = some c4 := by
  have e : List.range 5 = [0, 1, 2, 3, 4] := by decide
  unfold World.cells? at h
  split at h
  · rw [e] at h
    simp only [List.mapM_cons, List.mapM_nil, Option.bind_eq_bind, Option.pure_def, Option.bind_eq_some_iff] at h
    obtain ⟨c0, h0, r0, ⟨c1, h1, r1, ⟨c2, h2, r2, ⟨c3, h3, r3, ⟨c4, h4, r4, h5, h6⟩, h7⟩, h8⟩, h9⟩, h10⟩ := h
    simp only [Option.some.injEq] at h5 h6 h7 h8 h9 h10
    subst h5 h6 h7 h8 h9 h10
    exact ⟨c0, c1, c2, c3, c4, rfl, h0, h1, h2, h3, h4⟩
  · cases h

theorem bounds_i64' {z : Int} (h : (Lit.int .i64 z).wf = true) : -9223372036854775808 ≤ z ∧ z ≤ 9223372036854775807 := by
  have := bounds_i64 h
  omega

theorem open_nodes {H : Type} {enc : TypeId × Value → H} {w : World} {base : Nat} {spare : Nat → Bool} {held : Bool} {fuel : Nat} {a : Option Addr} {len cap : Nat} {x : DataW H × List MemPlace}
    (h : DataW.trod enc Try.prog w base spare held fuel 32 [.slice a len cap] = some x) : ∃ L, Nodes w a len L ∧ len ≤ maxLen := by
  have hc : Try.prog.cellsOf 36 = 5 := by kernel_rfl
  rcases Go.Deep.open_slice Try.underlying32 h with ⟨h0, _⟩ | ⟨x0, len', cap', m, n, D, Pl, h0, _, hl, hmx, hm, _, hel⟩
  · simp only [List.cons.injEq, Value.slice.injEq, and_true] at h0
    obtain ⟨rfl, rfl, rfl⟩ := h0
    exact ⟨[], ⟨rfl, (fun n h => by cases h), .inl rfl⟩, by unfold maxLen; omega⟩
  · simp only [List.cons.injEq, Value.slice.injEq, and_true] at h0
    obtain ⟨rfl, rfl, rfl⟩ := h0
    have hlm : len ≤ m := by rw [hm]; split <;> omega
    have hone : ∀ i, i < len → ∃ nd : Nd, nd.wf ∧ w.cell? (x0.add (i * 5)) = some (.int .u8 (nd.k : Int)) ∧ w.cell? (x0.add (i * 5 + 1)) = some (.bool nd.dec) ∧ w.cell? (x0.add (i * 5 + 2)) = some (.int .i64 nd.a) ∧ w.cell? (x0.add (i * 5 + 3)) = some (.int .i64 nd.s) ∧ w.cell? (x0.add (i * 5 + 4)) = some (.int .i64 nd.e) := by
      intro i hi
      obtain ⟨cs', k1, k2⟩ := hel i (by omega)
      rw [hc] at k1
      obtain ⟨c0, c1, c2, c3, c4, rfl, e0, e1, e2, e3, e4⟩ := cells5 k1
      obtain ⟨y0, y1, y2, y3, y4, n', _, t0, t1, t2, t3, t4⟩ := trod_struct5 Try.underlying36 k2
      have u5 : Try.prog.cellsOf 5 = 1 := by kernel_rfl
      have u4 : Try.prog.cellsOf 4 = 1 := by kernel_rfl
      have u3 : Try.prog.cellsOf 3 = 1 := by kernel_rfl
      simp only [u5, u4, u3, List.drop_zero, List.drop_succ_cons, List.take_succ_cons, List.take_zero] at t0 t1 t2 t3 t4
      obtain ⟨z0, q0, _, r0⟩ := DataW.trod_int Try.underlying5 t0
      obtain ⟨z1, q1, _⟩ := DataW.trod_bool Try.underlying4 t1
      obtain ⟨z2, q2, _, r2⟩ := DataW.trod_int Try.underlying3 t2
      obtain ⟨z3, q3, _, r3⟩ := DataW.trod_int Try.underlying3 t3
      obtain ⟨z4, q4, _, r4⟩ := DataW.trod_int Try.underlying3 t4
      simp only [List.cons.injEq, and_true] at q0 q1 q2 q3 q4
      subst q0 q1 q2 q3 q4
      have b0 := bounds_u8 r0
      have ez : ((z0.toNat : Nat) : Int) = z0 := by omega
      simp only [Go.Deep.add_add] at e0 e1 e2 e3 e4
      refine ⟨⟨z0.toNat, z1, z2, z3, z4⟩, ⟨by simp only; omega, bounds_i64' r2, bounds_i64' r3, bounds_i64' r4⟩, ?_, e1, e2, e3, e4⟩
      simp only [ez]
      exact e0
    obtain ⟨f, hf⟩ := Go.Deep.choose_lt hone
    refine ⟨(List.range len).map f, ⟨by simp, ?_, ?_⟩, by omega⟩
    · intro nd hnd
      rw [List.mem_map] at hnd
      obtain ⟨i, hi, rfl⟩ := hnd
      exact (hf i (List.mem_range.1 hi)).1
    · by_cases h0 : len = 0
      · exact .inl h0
      · obtain ⟨b, off, spot⟩ := x0
        have hs : spot = none := by simpa [Addr.add] using World.cell?_spot (hf 0 (by omega)).2.1
        subst hs
        refine .inr ⟨b, off, rfl, fun j hj => ?_⟩
        have hj' : j < len := by simpa using hj
        have h1 := (hf j hj').2
        simp only [Addr.add_lit] at h1
        simp only [List.getElem_map, List.getElem_range]
        exact ⟨h1.1, by rw [Nat.add_assoc]; exact h1.2.1, by rw [Nat.add_assoc]; exact h1.2.2.1, by rw [Nat.add_assoc]; exact h1.2.2.2.1, by rw [Nat.add_assoc]; exact h1.2.2.2.2⟩
end Go.Proofs.Qxb6615701a
