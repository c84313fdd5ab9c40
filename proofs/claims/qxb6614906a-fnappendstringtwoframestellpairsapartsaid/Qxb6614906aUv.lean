/-
  encoding/binary.AppendUvarint (19) onto a slice without spare room: what comes back owns a new row; nothing old has turned.
-/
import Derived.Test.Qxb6614906aClone
import Derived.ArgAppend
import Derived.Deep.Onto
import Derived.Lib.UnsafeStr
import Derived.Lib.AppendStr
import Derived.Shelf.Bin.AppendUvarint
namespace Go.Proofs.Qxb6614906a
open Go Go.RowKit
set_option linter.unusedVariables false

/-- A slice of just the bytes l, without spare room: nil, or the whole of a block. -/
def Full (w : World) (v : Value) (l : List UInt8) : Prop :=
  (v = .slice none 0 0 ∧ l = []) ∨ ∃ g cur, v = .slice (some ⟨g, 0, none⟩) l.length l.length ∧ Blk w g cur ∧ cur.toList = Lib.byteCells l

theorem byteCells_length (l : List UInt8) : (Lib.byteCells l).length = l.length := by simp [Lib.byteCells]
theorem byteCells_append (l m : List UInt8) : Lib.byteCells (l ++ m) = Lib.byteCells l ++ Lib.byteCells m := by simp [Lib.byteCells]

theorem Full.form {w : World} {v : Value} {l : List UInt8} (h : Full w v l) : ∃ ao, v = .slice ao l.length l.length ∧ (ao = none → l.length = 0 ∧ l.length = 0) ∧ (∀ b : Addr, ao = some b → b.block < w.heap.size ∧ ∀ j u, (Lib.byteCells l)[j]? = some u → w.cell? (b.add j) = some u) := by
  rcases h with ⟨rfl, rfl⟩ | ⟨g, cur, rfl, hb, hc⟩
  · exact ⟨none, rfl, fun _ => ⟨rfl, rfl⟩, (fun b h => by cases h)⟩
  · refine ⟨some ⟨g, 0, none⟩, rfl, (fun h => by cases h), fun b hb' => ?_⟩
    obtain rfl := Option.some.inj hb'
    refine ⟨hb.lt, fun j u hj => ?_⟩
    have : (⟨g, 0, none⟩ : Addr).add j = ⟨g, j, none⟩ := by rw [Addr.add_lit, Nat.zero_add]
    rw [this, hb.cell, ← hj, ← hc]
    simp

theorem new1 (W : World) (z : Int) : ∀ j u, [Value.int .u8 z][j]? = some u → (W.alloc (.cells #[.int .u8 z] 5)).cell? ((⟨W.heap.size, 0, none⟩ : Addr).add j) = some u := by
  intro j u hj
  match j, hj with
  | 0, hj => simp at hj; subst hj; simp [Addr.add]
theorem one1 (z : Int) : ∀ u ∈ [Value.int .u8 z], u.oneCell' = true := by intro u hu; simp at hu; subst hu; rfl
theorem old1 {W : World} {ao : Option Addr} {xs : List Value} (o : Obj) (h : ∀ b : Addr, ao = some b → b.block < W.heap.size ∧ ∀ j u, xs[j]? = some u → W.cell? (b.add j) = some u) : ∀ b : Addr, ao = some b → ∀ j u, xs[j]? = some u → (W.alloc o).cell? (b.add j) = some u := by
  intro b hb j u hj
  have h1 := (h b hb).2 j u hj
  have h2 := (h b hb).1
  rw [← h1]
  exact (mk_below W o).cell (p := b.add j) (by unfold Addr.add; split <;> exact h2)

/-- Behind the first byte: a new row. -/
theorem after_grow {w w' : World} {o : Obj} {v : Value} {n : Nat} {l : List UInt8} {c : Nat} (hc : c < 256) (hown : w'.ownsRow (w.heap.size + 1) 5 1 v (n + 1) (Lib.byteCells l ++ [Value.int .u8 (c : Int)])) (hg : (w.alloc o).grownBy w' none) :
    w'.ownsRow w.heap.size 5 1 v (n + 1) (Lib.byteCells (l ++ [c.toUInt8])) ∧ Below w.heap.size w w' := by
  refine ⟨?_, (mk_below w o).grown hg (by simp) (fun k h => by cases h)⟩
  rw [Lib.byteCells_snoc l hc]
  exact hown.mono (by simp)
/-- Behind a later byte: the row goes on. -/
theorem after_own {w wr w' : World} {o : Obj} {v v0 : Value} {n n0 : Nat} {l : List UInt8} {c : Nat} (hc : c < 256) (h0 : wr.ownsRow w.heap.size 5 1 v0 n0 (Lib.byteCells l)) (hb : Below w.heap.size w wr) (hown : w'.ownsRow w.heap.size 5 1 v (n + 1) (Lib.byteCells l ++ [Value.int .u8 (c : Int)])) (hg : (wr.alloc o).grownBy w' v0.ownBlock) :
    w'.ownsRow w.heap.size 5 1 v (n + 1) (Lib.byteCells (l ++ [c.toUInt8])) ∧ Below w.heap.size w w' := by
  refine ⟨?_, (hb.alloc hb.size _).grown hg (by have := hb.size; simp; omega) (fun k hk => (h0.lt k hk).1)⟩
  rw [Lib.byteCells_snoc l hc]
  exact hown

set_option maxHeartbeats 800000 in
set_option maxRecDepth 100000 in
theorem uv_full (x : Nat) (hx : x ≤ 1048576) (v : Value) (l : List UInt8) (hl : l.length ≤ 1048576) (w : World) (hv : Full w v l) :
    Calls Try.prog 19 #[v, .int .u64 x] w fun e w' => ∃ v', e = .returned v' ∧ w'.ownsRow w.heap.size 5 1 v' (l.length + (Lib.uvarint x).length) (Lib.byteCells (l ++ Lib.uvarint x)) ∧ Below w.heap.size w w' := by
  obtain ⟨ao, rfl, hnone, hao⟩ := hv.form
  have HN := hide hnone
  have HA := hide hao
  clear hv hnone hao
  obtain ⟨i0, hi, hz0, hz1, hz2⟩ := info_parts info5
  have hlen := Lib.uvarint_length64 (x := x) (by omega)
  go_enter Try.func19, Try.ntmps19
  go_wp2
  go_loopw [0, 1] (fun vb vx wr => ∃ (y : Nat) (pre : List UInt8), vx = .int .u64 y ∧ y ≤ x ∧ Hid (Lib.uvarint x = pre ++ Lib.uvarint y) ∧ ((pre = [] ∧ vb = .slice ao l.length l.length ∧ wr = w) ∨ (wr.ownsRow w.heap.size 5 1 vb (l.length + pre.length) (Lib.byteCells (l ++ pre)) ∧ Below w.heap.size w wr)))
    (fun _ vx _ => (intOf vx).toNat)
  case atStart => exact ⟨x, [], rfl, Nat.le_refl _, rfl, .inl ⟨rfl, rfl, rfl⟩⟩
  case round =>
    obtain ⟨y, pre, rfl, hy, hsp, hst⟩ := hrel
    have hpl : pre.length + (Lib.uvarint y).length ≤ 10 := by
      have h2 := congrArg List.length hsp.out
      rw [List.length_append] at h2
      omega
    have hyp := Lib.uvarint_pos y
    by_cases h128 : 128 ≤ y
    · have hor : bits .or .u8 ((y : Int) % 256) 128 = (y : Int) % 128 + 128 := by
        rw [Lib.u8_or128_any _ (by omega) (by omega)]
        omega
      have ec : (y : Int) % 128 + 128 = ((y % 128 + 128 : Nat) : Int) := by omega
      have EC := hide ec
      clear ec
      have hsp2 : Hid (Lib.uvarint x = (pre ++ [(y % 128 + 128).toUInt8]) ++ Lib.uvarint (y / 128)) := by
        show _ = _
        rw [hsp.out, Lib.uvarint_big h128]; simp
      clear hsp
      rcases hst with ⟨rfl, rfl, rfl⟩ | ⟨hown1, hnx⟩
      · go_wp2_with (at_builtin; refine wpList_append_grows _ rfl _ _ 25 rfl 5 i0 (.int .u8 0) 1 1 Try.underlying25 hi hz0 hz1 hz2 rfl (by decide) ao l.length l.length (Lib.byteCells l) rfl (unhide HN) (by rw [byteCells_length, Nat.mul_one]) (old1 _ (unhide HA)) ⟨wr.heap.size, 0, none⟩ 1 1 [Value.int .u8 ((y : Int) % 128 + 128)] rfl rfl (new1 _ _) (one1 _) (by omega) (by unfold maxLen; omega) (by omega) ?_)
        intro v' w1 hown' hgrow
        rw [unhide EC] at hown'
        have R := hide (after_grow (c := y % 128 + 128) (by omega) hown' hgrow)
        clear hown' hgrow
        go_wp2
        go_roundw
        case rel => exact ⟨y / 128, [(y % 128 + 128).toUInt8], by go_num, by omega, hsp2, .inr (unhide R)⟩
        case measure => simp [intOf]; omega
      · go_wp2_with (at_builtin; refine wpList_append_own _ rfl _ _ 25 rfl w.heap.size 5 i0 (.int .u8 0) 1 1 Try.underlying25 hi hz0 hz1 hz2 rfl (by decide) _ _ _ rfl (hown1.alloc _) ⟨wr.heap.size, 0, none⟩ 1 1 [Value.int .u8 ((y : Int) % 128 + 128)] rfl rfl (new1 _ _) (one1 _) (by unfold maxLen; omega) (by omega) (by have := hnx.size; simp; omega) ?_)
        intro v' w1 hown' hgrow _
        rw [unhide EC] at hown'
        have R := after_own (c := y % 128 + 128) (by omega) hown1 hnx hown' hgrow
        rw [List.append_assoc] at R
        have R' := hide R
        clear hown' hgrow R hown1
        go_wp2
        go_roundw
        case rel => exact ⟨y / 128, pre ++ [(y % 128 + 128).toUInt8], by go_num, by omega, hsp2, .inr ⟨by rw [List.length_append, List.length_singleton, ← Nat.add_assoc]; exact (unhide R').1, (unhide R').2⟩⟩
        case measure => simp [intOf]; omega
    · have hsp2 : Hid (Lib.uvarint x = pre ++ [y.toUInt8]) := by
        show _ = _
        rw [hsp.out, Lib.uvarint_small (by omega)]
      clear hsp
      have y256 : (y : Int) % 256 = y := by omega
      rcases hst with ⟨rfl, rfl, rfl⟩ | ⟨hown1, hnx⟩
      · go_wp2_with (at_builtin; refine wpList_append_grows _ rfl _ _ 25 rfl 5 i0 (.int .u8 0) 1 1 Try.underlying25 hi hz0 hz1 hz2 rfl (by decide) ao l.length l.length (Lib.byteCells l) rfl (unhide HN) (by rw [byteCells_length, Nat.mul_one]) (old1 _ (unhide HA)) ⟨wr.heap.size, 0, none⟩ 1 1 [Value.int .u8 (y : Int)] rfl rfl (new1 _ _) (one1 _) (by omega) (by unfold maxLen; omega) (by omega) ?_)
        intro v' w1 hown' hgrow
        have R := hide (after_grow (c := y) (by omega) hown' hgrow)
        clear hown' hgrow
        go_wp2
        go_ret
        exact ⟨v', rfl, by rw [hsp2.out]; exact (unhide R).1, (unhide R).2⟩
      · go_wp2_with (at_builtin; refine wpList_append_own _ rfl _ _ 25 rfl w.heap.size 5 i0 (.int .u8 0) 1 1 Try.underlying25 hi hz0 hz1 hz2 rfl (by decide) _ _ _ rfl (hown1.alloc _) ⟨wr.heap.size, 0, none⟩ 1 1 [Value.int .u8 (y : Int)] rfl rfl (new1 _ _) (one1 _) (by unfold maxLen; omega) (by omega) (by have := hnx.size; simp; omega) ?_)
        intro v' w1 hown' hgrow _
        have R := after_own (c := y) (by omega) hown1 hnx hown' hgrow
        rw [List.append_assoc] at R
        have R' := hide R
        clear hown' hgrow R hown1
        go_wp2
        go_ret
        exact ⟨v', rfl, by rw [hsp2.out, List.length_append, List.length_singleton, ← Nat.add_assoc]; exact (unhide R').1, (unhide R').2⟩
end Go.Proofs.Qxb6614906a
