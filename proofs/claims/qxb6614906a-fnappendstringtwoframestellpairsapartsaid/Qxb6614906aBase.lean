/-
  Small functions of this seat: cloneBytes (11), uvarintLen (13); a block of bytes in memory.
-/
import Derived.Test.Qxb6614906aPlain
import Derived.Test.Qxb6614906aProg
import Derived.WalkKit
import Derived.WalkSpells
import Derived.WalkSmall
import Derived.WalkLawsBesides
import Derived.Deep.QuietTactic
import Derived.BigQuiet
import Derived.RegionTactic
import Derived.Deep.OwnRows
import Derived.Lib.VarintBits
import Derived.Outline
namespace Go.Proofs.Qxb6614906a
open Go Go.RowKit
set_option linter.unusedVariables false

theorem hide {p : Prop} (h : p) : Hid p := h
theorem unhide {p : Prop} (h : Hid p) : p := h

theorem info5 : (Try.prog.info? 5).map (fun i => (i.zero, i.size, i.bytes)) = some (some (.int .u8 0), 1, 1) := by kernel_rfl

/-- Block g holds the cells 'cur', none of them frozen. -/
def Blk (w : World) (g : Nat) (cur : Array Value) : Prop := w.heap[g]? = some (.cells cur 5 (0, 0))

theorem Blk.cell {w : World} {g : Nat} {cur : Array Value} (h : Blk w g cur) (j : Nat) : w.cell? ⟨g, j, none⟩ = cur[j]? := by
  unfold Blk at h
  simp [World.cell?, h]
theorem Blk.frozen {w : World} {g : Nat} {cur : Array Value} (h : Blk w g cur) (j : Nat) : w.frozen? ⟨g, j, none⟩ = false := by
  unfold Blk at h
  simp [World.frozen?, h]
theorem Blk.set {w : World} {g : Nat} {cur : Array Value} (h : Blk w g cur) (j : Nat) (v : Value) : Blk (w.setCell ⟨g, j, none⟩ v) g (cur.setIfInBounds j v) := by
  unfold Blk at h ⊢
  simp [World.setCell, Array.getElem?_modify, h]
theorem Blk.below {w w' : World} {g B : Nat} {cur : Array Value} (h : Blk w g cur) (hb : Below B w w') (hg : g < B) : Blk w' g cur := by
  unfold Blk at h ⊢
  rw [hb.block g hg]; exact h
theorem Blk.lt {w : World} {g : Nat} {cur : Array Value} (h : Blk w g cur) : g < w.heap.size := by
  unfold Blk at h
  exact (Array.getElem?_eq_some_iff.1 h).1

set_option maxHeartbeats 400000 in
set_option maxRecDepth 100000 in
theorem uvLen_any (x : Nat) (hx : x ≤ 1048576) (w : World) :
    Calls Try.prog 13 #[.int .u64 x] w fun e w' => e = .returned (.int .i64 (Lib.uvarint x).length) ∧ w' = w := by
  have hl := Lib.uvarint_length64 (x := x) (by omega)
  go_enter Try.func13, Try.ntmps13
  go_wp2
  go_loop [0, 3] (fun vx vn => ∃ y n : Nat, vx = .int .u64 y ∧ vn = .int .i64 n ∧ y ≤ x ∧ n ≤ 10 ∧ Hid ((Lib.uvarint x).length + 1 = n + (Lib.uvarint y).length)) (fun vx _ => (intOf vx).toNat)
  case atStart => exact ⟨x, 1, rfl, rfl, Nat.le_refl _, by omega, Nat.add_comm _ _⟩
  case round =>
    obtain ⟨y, n, rfl, rfl, hy, hn, hh⟩ := hrel
    by_cases h : 128 ≤ y
    · have H : Hid ((Lib.uvarint x).length + 1 = (n + 1) + (Lib.uvarint (y / 128)).length) := by
        have h1 := hh.out
        rw [Plain.uv_len_step (x := y) h] at h1
        show _ = _
        omega
      have hn' : n + 1 ≤ 10 := by
        have h1 := hh.out
        have h2 := Lib.uvarint_pos (y / 128)
        rw [Plain.uv_len_step (x := y) h] at h1
        omega
      clear hh
      go_wp2
      go_round
      case rel => exact ⟨y / 128, n + 1, by go_num, by go_num, by omega, hn', H⟩
      case measure => simp [intOf]; omega
    · have e : ((Lib.uvarint x).length : Int) = n := by
        have h1 := hh.out
        rw [Plain.uv_len_small (x := y) (by omega)] at h1
        omega
      have E := hide e
      clear hh e
      go_wp2
      go_ret
      exact ⟨by rw [unhide E]; rfl, rfl⟩
end Go.Proofs.Qxb6614906a
