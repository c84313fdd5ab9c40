/-
  (*yamlNotes).note (34).
-/
import Derived.Test.Qxb6615701aCount
import Derived.ArgAppend
import Derived.Deep.Onto
namespace Go.Proofs.Qxb6615701a
open Go Go.RowKit
set_option linter.unusedVariables false

theorem info66 : (Try.prog.info? 66).map (fun i => (i.zero, i.size, i.bytes)) = some (some (.agg #[.int .i64 0, .string ⟨#[]⟩]), 2, 24) := by kernel_rfl

/-- What became of the world: block gy alone has turned. -/
theorem grown_set {w w1 : World} {o : Obj} {gy : Nat} (v : Value) (hg : (w.alloc o).grownBy w1 none) (hgy : gy < w.heap.size) : w.grownBy (w1.setCell ⟨gy, 0, none⟩ v) (some gy) := by
  refine ⟨hg.os, hg.tape, hg.output, ?_, fun k hk hne => ?_⟩
  · have := hg.size
    simp only [World.setCell, Array.size_modify]
    simp at this
    omega
  · have h1 := hg.block k (by simp; omega) (by intro h; cases h)
    have h2 : (w.alloc o).heap[k]? = w.heap[k]? := Below.heap_alloc w o k hk
    have hne' : gy ≠ k := fun h => hne (by rw [h])
    simp only [World.setCell, Array.getElem?_modify, if_neg hne']
    rw [h1, h2]

/-- One place, noted. -/
def Noted (w : World) (gy : Nat) (off : Int) (m : ByteArray) : Prop :=
  ∃ gp cap, w.cell? ⟨gy, 0, none⟩ = some (.slice (some ⟨gp, 0, none⟩) 1 cap) ∧ 1 ≤ cap ∧ w.cell? ⟨gp, 0, none⟩ = some (.int .i64 off) ∧ w.cell? ⟨gp, 1, none⟩ = some (.string m)

theorem noted_of {w w1 : World} {o : Obj} {gy : Nat} {off : Int} {m : ByteArray} {v : Value} {old : Value} (hg : (w.alloc o).grownBy w1 none) (hc : w.cell? ⟨gy, 0, none⟩ = some old) (hown : w1.ownsRow (w.heap.size + 1) 66 2 v 1 [.int .i64 off, .string m]) : Noted (w1.setCell ⟨gy, 0, none⟩ v) gy off m := by
  have hgy : gy < w.heap.size := World.block_lt_of_cell? w _ hc
  obtain ⟨_, h⟩ := hown
  rcases h with ⟨_, h⟩ | ⟨gp, cap, cur, rfl, hb, hh, h1, h2, hs, ht⟩
  · omega
  · have hne : gy ≠ gp := by omega
    have c0 : (w1.setCell ⟨gy, 0, none⟩ (.slice (some ⟨gp, 0, none⟩) 1 cap)).heap[gp]? = some (.cells cur 66 (0, 0)) := by
      simp only [World.setCell, Array.getElem?_modify, if_neg hne]
      exact hh
    have e1 : cur.toList.take 2 = [.int .i64 off, .string m] := ht
    have g0 : cur[0]? = some (.int .i64 off) := by
      have := congrArg (fun l : List Value => l[0]?) e1
      simpa using this
    have g1 : cur[1]? = some (.string m) := by
      have := congrArg (fun l : List Value => l[1]?) e1
      simpa using this
    refine ⟨gp, cap, ?_, h1, ?_, ?_⟩
    · have h3 : w1.cell? ⟨gy, 0, none⟩ = some old := by
        rw [← hc]
        have hk := hg.block gy (by simp; omega) (by intro h; cases h)
        have h2 : (w.alloc o).heap[gy]? = w.heap[gy]? := Below.heap_alloc w o gy hgy
        simp only [World.cell?]
        rw [hk, h2]
      exact World.cell?_setCell_same _ _ _ h3
    · simp only [World.cell?]
      rw [c0]
      simpa using g0
    · simp only [World.cell?]
      rw [c0]
      simpa using g1

theorem new2 (W : World) (x y : Value) : ∀ j u, [x, y][j]? = some u → (W.alloc (.cells #[x, y] 66)).cell? ((⟨W.heap.size, 0, none⟩ : Addr).add j) = some u := by
  intro j u hj
  rw [Addr.add_lit, Nat.zero_add]
  match j, hj with
  | 0, hj => simp at hj; subst hj; simp
  | 1, hj => simp at hj; subst hj; simp

set_option maxHeartbeats 400000 in
theorem note_first (gy : Nat) (off : Int) (m : ByteArray) (w : World) (hc : w.cell? ⟨gy, 0, none⟩ = some (.slice none 0 0)) (hf : w.frozen? ⟨gy, 0, none⟩ = false) :
    Calls Try.prog 34 #[.pointer (some ⟨gy, 0, none⟩), .int .i64 off, .string m] w fun e w' => e = .returned (.tuple #[]) ∧ Noted w' gy off m ∧ w.grownBy w' (some gy) := by
  obtain ⟨i0, hi, hz0, hz1, hz2⟩ := info_parts info66
  have hgy : gy < w.heap.size := World.block_lt_of_cell? w _ hc
  go_enter Try.func34, Try.ntmps34
  go_wp2_with (at_builtin; refine wpList_append_grows _ rfl _ _ 55 rfl 66 i0 (.agg #[.int .i64 0, .string ⟨#[]⟩]) 2 24 Try.underlying55 hi hz0 hz1 hz2 rfl (by decide) none 0 0 [] rfl (fun _ => ⟨rfl, rfl⟩) rfl ?c2 ⟨w.heap.size, 0, none⟩ 1 1 [.int .i64 off, .string m] rfl rfl (new2 _ _ _) ?c4 (by omega) (by unfold maxLen; omega) (by omega) ?_)
  case c2 => intro b h; cases h
  case c4 => intro u hu; simp at hu; rcases hu with rfl | rfl <;> rfl
  intro v' w1 hown hgrow
  have R := hide (noted_of hgrow hc hown)
  have R2 := hide (grown_set v' hgrow hgy)
  have hk := hgrow.block gy (by simp; omega) (by intro h; cases h)
  have h2 : (w.alloc (.cells #[.int .i64 off, .string m] 66)).heap[gy]? = w.heap[gy]? := Below.heap_alloc w _ gy hgy
  have hc1 : w1.cell? ⟨gy, 0, none⟩ = some (.slice none 0 0) := by
    rw [← hc]; simp only [World.cell?]; rw [hk, h2]
  have hf1 : w1.frozen? ⟨gy, 0, none⟩ = false := by
    rw [← hf]; simp only [World.frozen?]; rw [hk, h2]
  obtain ⟨gp, cap, hv⟩ : ∃ gp cap, v' = .slice (some ⟨gp, 0, none⟩) 1 cap := by
    rcases hown.2 with ⟨_, h⟩ | ⟨gp, cap, cur, hv, _⟩
    · omega
    · exact ⟨gp, cap, hv⟩
  subst hv
  clear hown hgrow hk h2
  go_wp2
  go_end0
  exact ⟨rfl, unhide R, unhide R2⟩
end Go.Proofs.Qxb6615701a
