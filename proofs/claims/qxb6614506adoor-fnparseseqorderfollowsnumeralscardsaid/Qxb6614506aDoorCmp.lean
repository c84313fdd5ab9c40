/-
  b1CmpNumerals (12): what it answers; the world draws.
-/
import Derived.Test.Qxb6614506aDoorNum
namespace Go.Proofs.Qxb6614506aDoor
open Go.Shelf Go.RowKit

theorem cmp_lt (x y : ByteArray) (k : Nat) (hx : k < x.size) (hy : k < y.size) (h : (x[k].toNat : Int) < y[k].toNat) : Plain.cmpS (x.data.toList.drop k) (y.data.toList.drop k) = -1 := by
  rw [drop_at x k hx, drop_at y k hy, Plain.cmpS, if_pos (by omega)]
theorem cmp_gt (x y : ByteArray) (k : Nat) (hx : k < x.size) (hy : k < y.size) (h : (y[k].toNat : Int) < x[k].toNat) : Plain.cmpS (x.data.toList.drop k) (y.data.toList.drop k) = 1 := by
  rw [drop_at x k hx, drop_at y k hy, Plain.cmpS, if_neg (by omega), if_pos (by omega)]
theorem cmp_eq (x y : ByteArray) (k : Nat) (hx : k < x.size) (hy : k < y.size) (h1 : ¬ (x[k].toNat : Int) < y[k].toNat) (h2 : ¬ (y[k].toNat : Int) < x[k].toNat) : Plain.cmpS (x.data.toList.drop k) (y.data.toList.drop k) = Plain.cmpS (x.data.toList.drop (k + 1)) (y.data.toList.drop (k + 1)) := by
  rw [drop_at x k hx, drop_at y k hy, Plain.cmpS, if_neg (by omega), if_neg (by omega)]
theorem cmp_end (x y : ByteArray) (k : Nat) (hx : ¬ k < x.size) : Plain.cmpS (x.data.toList.drop k) (y.data.toList.drop k) = 0 := by
  have h0 : x.data.toList.drop k = [] := List.drop_eq_nil_of_le (by simp; omega)
  rw [h0]
  rfl

theorem ret_i64 {a b : Int} (h : a = b) : Ending.returned (.int .i64 a) = .returned (.int .i64 b) := by rw [h]

set_option maxHeartbeats 400000 in
theorem cmp_same (x y : ByteArray) (w : World) (hs : x.size ≤ 281474976710656) (hxy : x.size ≤ y.size) (hyx : y.size ≤ x.size) :
    Calls Tryd.prog 12 #[.string x, .string y] w fun e w' => e = .returned (.int .i64 (Plain.cmpS x.data.toList y.data.toList)) ∧ ∃ n, w' = w.drewN n := by
  have d1 : decide (x.size < y.size) = false := by simp; omega
  have d2 : decide (y.size < x.size) = false := by simp; omega
  go_enter Tryd.func12, Tryd.ntmps12
  go_wp2
  go_loopw [5] (fun i wr => ∃ k n : Nat, k ≤ x.size ∧ i = .int .i64 k ∧ wr = w.drewN n ∧ Hid (Plain.cmpS x.data.toList y.data.toList = Plain.cmpS (x.data.toList.drop k) (y.data.toList.drop k))) (fun i _ => x.size - (intOf i).toNat)
  case atStart => exact ⟨0, 0, Nat.zero_le _, rfl, rfl, rfl⟩
  case round =>
    obtain ⟨k, n, hk, rfl, rfl, ht⟩ := hrel
    by_cases hlt : k < x.size
    · have hy : k < y.size := by omega
      by_cases h1 : (x[k].toNat : Int) < y[k].toNat
      · have H := hide (ht.out.trans (cmp_lt x y k hlt hy h1))
        clear ht
        go_wp2
        go_quiet (fail)
        go_wp2
        go_ret
        exact ⟨ret_i64 (unhide H).symm, _, World.drewN_drewN _ _ _⟩
      · by_cases h2 : (y[k].toNat : Int) < x[k].toNat
        · have H := hide (ht.out.trans (cmp_gt x y k hlt hy h2))
          clear ht
          go_wp2
          go_quiet (fail)
          go_wp2
          go_quiet (fail)
          go_wp2
          go_ret
          exact ⟨ret_i64 (unhide H).symm, _, by rw [World.drewN_drewN, World.drewN_drewN]⟩
        · have H := hide (ht.out.trans (cmp_eq x y k hlt hy h1 h2))
          clear ht
          go_wp2
          go_quiet (fail)
          go_wp2
          go_quiet (fail)
          go_wp2
          go_roundw
          case rel => exact ⟨k + 1, _, by omega, by go_num, rfl, unhide H⟩
          case measure => simp [intOf]; omega
    · have H := hide (ht.out.trans (cmp_end x y k hlt))
      clear ht
      go_wp2
      go_ret
      exact ⟨ret_i64 (unhide H).symm, _, rfl⟩

set_option maxHeartbeats 400000 in
theorem cmp_any (x y : ByteArray) (w : World) (hs : x.size ≤ 281474976710656) :
    Calls Tryd.prog 12 #[.string x, .string y] w fun e w' => e = .returned (.int .i64 (Plain.cmpN x.data.toList y.data.toList)) ∧ ∃ n, w' = w.drewN n := by
  have lx : x.data.toList.length = x.size := (Lib.size_eq x).symm
  have ly : y.data.toList.length = y.size := (Lib.size_eq y).symm
  by_cases h1 : x.size < y.size
  · have e : Plain.cmpN x.data.toList y.data.toList = -1 := by rw [Plain.cmpN, if_pos (by omega)]
    rw [e]
    clear e lx ly
    go_enter Tryd.func12, Tryd.ntmps12
    go_wp2
    go_ret
    exact ⟨rfl, 0, rfl⟩
  · by_cases h2 : y.size < x.size
    · have e : Plain.cmpN x.data.toList y.data.toList = 1 := by rw [Plain.cmpN, if_neg (by omega), if_pos (by omega)]
      rw [e]
      clear e lx ly
      go_enter Tryd.func12, Tryd.ntmps12
      go_wp2
      go_ret
      exact ⟨rfl, 0, rfl⟩
    · have e : Plain.cmpN x.data.toList y.data.toList = Plain.cmpS x.data.toList y.data.toList := by rw [Plain.cmpN, if_neg (by omega), if_neg (by omega)]
      rw [e]
      exact cmp_same x y w hs (by omega) (by omega)
end Go.Proofs.Qxb6614506aDoor
