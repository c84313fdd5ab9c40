/-
  Towards the walk of FnNoteKeyForYAMLKeepsALineBreakAsTheColonMovesOn (function 4).
-/
import Derived.Test.Qxb6615701aGet
import Derived.Laws.CopyOwn
namespace Go.Proofs.Qxb6615701a
open Go Go.RowKit
set_option linter.unusedVariables false

set_option maxHeartbeats 800000 in
theorem l4_out (ao : Option Addr) (n cap : Nat) (key mid colon : Int) (w : World) (hn : n ≤ maxLen) (h : 1048576 < n ∨ key < 0 ∨ mid < key ∨ colon < mid ∨ (n : Int) < colon) :
    Calls Try.prog 4 #[.slice ao n cap, .int .i64 key, .int .i64 mid, .int .i64 colon] w fun e w' => e = .returned (.bool true) ∧ Below w.heap.size w w' := by
  unfold maxLen at hn
  by_cases h1 : 1048576 < n
  · go_enter Try.func4, Try.ntmps4
    go_wp2
    go_ret
    exact ⟨rfl, Below.refl _ _⟩
  by_cases h2 : key < 0
  · go_enter Try.func4, Try.ntmps4
    go_wp2
    go_ret
    exact ⟨rfl, Below.refl _ _⟩
  by_cases h3 : mid < key
  · go_enter Try.func4, Try.ntmps4
    go_wp2
    go_ret
    exact ⟨rfl, Below.refl _ _⟩
  by_cases h4 : colon < mid
  · go_enter Try.func4, Try.ntmps4
    go_wp2
    go_ret
    exact ⟨rfl, Below.refl _ _⟩
  · have h5 : (n : Int) < colon := by omega
    go_enter Try.func4, Try.ntmps4
    go_wp2
    go_ret
    exact ⟨rfl, Below.refl _ _⟩

theorem size5 : (Try.prog.info? 5).map (·.size) = some 1 := by kernel_rfl

/-- A copy of all of it. -/
theorem copied {w : World} {g : Nat} {cur : List Value} {l : List UInt8} (hl : cur.length = l.length) (h : w.heap[g]? = some (.cells (splice cur 0 (Lib.byteCells l)).toArray 5 (0, 0))) : Bytes w g l := by
  refine ⟨_, h, ?_⟩
  have hb := byteCells_length l
  simp only [splice, List.take_zero, List.nil_append, Nat.zero_add]
  rw [List.drop_eq_nil_of_le (by omega), List.append_nil]

theorem byteCells_one (l : List UInt8) : ∀ v ∈ Lib.byteCells l, v.oneCell' = true := by
  intro v hv
  simp only [Lib.byteCells, List.mem_map] at hv
  obtain ⟨c, _, rfl⟩ := hv
  rfl

theorem src_cells {w : World} {x : Addr} {l : List UInt8} (h : Src w x l) : ∀ j v, (Lib.byteCells l)[j]? = some v → w.cell? (x.add j) = some v := by
  intro j v hj
  have hlt : j < l.length := by
    have := (List.getElem?_eq_some_iff.1 hj).1
    rwa [byteCells_length] at this
  rw [h j hlt, ← hj]
  simp [Lib.byteCells, hlt]

theorem Src.below {w w' : World} {x : Addr} {l : List UInt8} (h : Src w x l) (hb : Below w.heap.size w w') : Src w' x l := by
  intro j hj
  exact (hb.cell (p := x.add j) (World.block_lt_of_cell? w _ (h j hj))).trans (h j hj)

theorem later_lit : ByteArray.mk (List.toArray (List.append (89 :: 65 :: 77 :: 76 :: 32 :: 116 :: 97 :: 107 :: 101 :: 115 :: 32 :: 97 :: 32 :: 107 :: 101 :: 121 :: 32 :: 111 :: 110 :: 108 :: 121 :: 32 :: 119 :: 104 :: 101 :: 114 :: 101 :: 32 :: 105 :: 116 :: 115 :: 32 :: 39 :: 58 :: 39 :: 32 :: 115 :: 116 :: 97 :: 110 :: 100 :: 115 :: 32 :: 111 :: 110 :: 32 :: 116 :: 104 :: []) (101 :: 32 :: 107 :: 101 :: 121 :: 39 :: 115 :: 32 :: 108 :: 105 :: 110 :: 101 :: 59 :: 32 :: 112 :: 117 :: 116 :: 32 :: 116 :: 104 :: 101 :: 32 :: 39 :: 58 :: 39 :: 32 :: 116 :: 104 :: 101 :: 114 :: 101 :: 44 :: 32 :: 111 :: 114 :: 32 :: 114 :: 117 :: 110 :: 32 :: 114 :: 117 :: 116 :: 104 :: 32 :: 102 :: 109 :: 116 :: []))) = later := rfl
theorem longK_lit : ByteArray.mk (List.toArray (List.append (89 :: 65 :: 77 :: 76 :: 32 :: 116 :: 97 :: 107 :: 101 :: 115 :: 32 :: 97 :: 32 :: 107 :: 101 :: 121 :: 32 :: 111 :: 110 :: 108 :: 121 :: 32 :: 119 :: 104 :: 101 :: 114 :: 101 :: 32 :: 105 :: 116 :: 115 :: 32 :: 39 :: 58 :: 39 :: 32 :: 115 :: 116 :: 97 :: 110 :: 100 :: 115 :: 32 :: 119 :: 105 :: 116 :: 104 :: 105 :: 110 :: 32 :: 49 :: 44 :: 48 :: 50 :: []) (52 :: 32 :: 99 :: 104 :: 97 :: 114 :: 97 :: 99 :: 116 :: 101 :: 114 :: 115 :: 32 :: 111 :: 102 :: 32 :: 105 :: 116 :: 115 :: 32 :: 111 :: 112 :: 101 :: 110 :: 105 :: 110 :: 103 :: 32 :: 113 :: 117 :: 111 :: 116 :: 101 :: 59 :: 32 :: 119 :: 114 :: 105 :: 116 :: 101 :: 32 :: 97 :: 32 :: 115 :: 104 :: 111 :: 114 :: 116 :: 101 :: 114 :: 32 :: 107 :: 101 :: 121 :: []))) = longK := rfl
theorem span_cells {w : World} {g : Nat} {l : List UInt8} {k c : Nat} (hb : Bytes w g l) (hc : c ≤ l.length) : ∀ j (hj : j < (span l k c).length), w.cell? ⟨g, k + j, none⟩ = some (.int .u8 ((span l k c)[j]).toNat) := by
  intro j hj
  have hl := span_len l k c hc
  rw [hb.cell (k + j) (by omega)]
  simp [span]
end Go.Proofs.Qxb6615701a
