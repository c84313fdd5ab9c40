/-
  cloneBytes (11).
-/
import Derived.Test.Qxb6614906aBase
namespace Go.Proofs.Qxb6614906a
open Go Go.RowKit
set_option linter.unusedVariables false

theorem clone_nil (w : World) : Calls Try.prog 11 #[.slice none 0 0] w fun e w' => e = .returned (.slice none 0 0) ∧ w' = w := by
  have hq := Lib.run_eql_slice_nil (P := Try.prog) (w := w) (t := 25) (e := 5) (a := none) (n := 0) (c := 0) (n' := 0) (c' := 0) Try.underlying25
  go_enter Try.func11, Try.ntmps11
  go_wp2
  go_ret
  exact ⟨rfl, rfl⟩

theorem mk_below (w : World) (o : Obj) : Below w.heap.size w (w.alloc o) := (Below.refl _ _).alloc (Nat.le_refl _) _
theorem mk_blk (w : World) (cur : Array Value) : Blk (w.alloc (.cells cur 5)) w.heap.size cur := heap_alloc_new w _

/-- Block g of w' holds just the n bytes 'zs'; what lay below it in w is as it was. -/
def Made (w w' : World) (n : Nat) (zs : List Int) : Prop := ∃ cur, Blk w' w.heap.size cur ∧ cur.size = n ∧ (∀ j, j < n → cur[j]? = some (.int .u8 (zs.getD j 0))) ∧ Below w.heap.size w w'

set_option maxHeartbeats 400000 in
theorem clone_zero (x : Addr) (cap : Nat) (w : World) : Calls Try.prog 11 #[.slice (some x) 0 cap] w fun e w' => e = .returned (.slice (some ⟨w.heap.size, 0, none⟩) 0 0) ∧ Made w w' 0 [] := by
  have hmk : ∀ w, (Instr.makeSlice 25 (.int .i64 0) (.int .i64 0)).run Try.prog w = .ok (.slice (some ⟨w.heap.size, 0, none⟩) 0 0) (w.alloc (.cells (madeCells #[.int .u8 0] 0) 5)) := run_make_row' (P := Try.prog) 25 5 (.int .u8 0) 1 Try.underlying25 info5 rfl .i64 .i64 0 (by omega) (by omega)
  have hq := Lib.run_eql_slice_nil (P := Try.prog) (w := w) (t := 25) (e := 5) (a := some x) (n := 0) (c := cap) (n' := 0) (c' := 0) Try.underlying25
  go_enter Try.func11, Try.ntmps11
  go_wp2
  go_loop [4] (fun i => i = .int .i64 0) (fun _ => 0)
  case atStart => rfl
  case round =>
    subst hrel
    go_wp2
    go_ret
    exact ⟨rfl, _, mk_blk _ _, size_madeCells _ _, fun j h => absurd h (Nat.not_lt_zero _), mk_below _ _⟩

theorem fill_step (cur : Array Value) (zs : List Int) (k len : Nat) (hsz : cur.size = len) (hk : k < len) (h : ∀ j, j < k → cur[j]? = some (.int .u8 (zs.getD j 0))) :
    ∀ j, j < k + 1 → (cur.setIfInBounds k (.int .u8 (zs.getD k 0)))[j]? = some (.int .u8 (zs.getD j 0)) := by
  intro j hj
  rw [Array.getElem?_setIfInBounds]
  by_cases e : k = j
  · subst e; rw [if_pos rfl, if_pos (by omega)]
  · rw [if_neg e]; exact h j (by omega)

set_option maxHeartbeats 400000 in
theorem clone_some (b off len cap : Nat) (zs : List Int) (hz : len ≤ zs.length) (h0 : 0 < len) (hm : len ≤ 1048576) (hlc : len ≤ cap) (w : World) (hb : b < w.heap.size) (hc : ∀ i, i < len → w.cell? ⟨b, off + i, none⟩ = some (.int .u8 (zs.getD i 0))) :
    Calls Try.prog 11 #[.slice (some ⟨b, off, none⟩) len cap] w fun e w' => e = .returned (.slice (some ⟨w.heap.size, 0, none⟩) len len) ∧ Made w w' len zs := by
  have hmk := run_make_row' (P := Try.prog) 25 5 (.int .u8 0) 1 Try.underlying25 info5 rfl .i64 .i64 len (by omega) (by omega)
  have hq := Lib.run_eql_slice_nil (P := Try.prog) (w := w) (t := 25) (e := 5) (a := some ⟨b, off, none⟩) (n := len) (c := cap) (n' := 0) (c' := 0) Try.underlying25
  go_enter Try.func11, Try.ntmps11
  go_wp2
  go_loopw [4] (fun i wr => ∃ (k : Nat) (cur : Array Value), k ≤ len ∧ i = .int .i64 k ∧ Blk wr w.heap.size cur ∧ cur.size = len ∧ Hid (∀ j, j < k → cur[j]? = some (.int .u8 (zs.getD j 0))) ∧ Below w.heap.size w wr) (fun i _ => len - (intOf i).toNat)
  case atStart => exact ⟨0, _, Nat.zero_le _, rfl, mk_blk _ _, size_madeCells _ _, fun j h => absurd h (Nat.not_lt_zero _), mk_below _ _⟩
  case round =>
    obtain ⟨k, cur, hk, rfl, hbl, hsz, hH, hbe⟩ := hrel
    by_cases hlt : k < len
    · have hcell : wr.cell? ⟨b, off + k, none⟩ = some (.int .u8 (zs.getD k 0)) := (hbe.cell (p := ⟨b, off + k, none⟩) hb).trans (hc k hlt)
      have hold : wr.cell? ⟨w.heap.size, k, none⟩ = some (cur[k]'(by omega)) := by rw [hbl.cell]; exact Array.getElem?_eq_getElem (by omega)
      have hfr := hbl.frozen k
      have hstep := hide (fill_step cur zs k len hsz hlt hH.out)
      clear hH
      generalize zs.getD k 0 = z at hcell hstep
      go_wp2
      go_roundw
      case rel => exact ⟨k + 1, _, by omega, by go_num, hbl.set _ _, by simpa using hsz, hstep, hbe.setCell (Nat.le_refl _) _⟩
      case measure => simp [intOf]; omega
    · go_wp2
      go_ret
      have e : k = len := by omega
      subst e
      exact ⟨rfl, cur, hbl, hsz, hH.out, hbe⟩
end Go.Proofs.Qxb6614906a
