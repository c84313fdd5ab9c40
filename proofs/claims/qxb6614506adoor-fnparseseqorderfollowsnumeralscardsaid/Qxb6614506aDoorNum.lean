/-
  b1TrimZeros (13), b1CmpNumerals (12), b1CmpU (11), b1Pow10 (15): what they answer.
-/
import Derived.Test.Qxb6614506aDoorSeq
import Derived.Lib.IndexBytes
namespace Go.Proofs.Qxb6614506aDoor
open Go.Shelf Go.RowKit

theorem drop_at (s : ByteArray) (k : Nat) (h : k < s.size) : s.data.toList.drop k = s[k] :: s.data.toList.drop (k + 1) := List.drop_eq_getElem_cons (by simpa using h)

theorem trim_step (s : ByteArray) (k : Nat) (h : k < s.size) (hc : (s[k].toNat : Int) = 48) (ht : Plain.trimZ s.data.toList = Plain.trimZ (s.data.toList.drop k)) : Plain.trimZ s.data.toList = Plain.trimZ (s.data.toList.drop (k + 1)) := by
  rw [ht, drop_at s k h, Plain.trimZ, if_pos (by omega)]
theorem trim_stop (s : ByteArray) (k : Nat) (h : k < s.size) (hc : (s[k].toNat : Int) ≠ 48) (ht : Plain.trimZ s.data.toList = Plain.trimZ (s.data.toList.drop k)) : (s.extract k s.size).data.toList = Plain.trimZ s.data.toList := by
  rw [ht, Lib.extract_to_end, drop_at s k h, Plain.trimZ, if_neg (by omega)]
theorem trim_end (s : ByteArray) (k : Nat) (h : ¬ k < s.size) (ht : Plain.trimZ s.data.toList = Plain.trimZ (s.data.toList.drop k)) : (s.extract k s.size).data.toList = Plain.trimZ s.data.toList := by
  rw [ht, Lib.extract_to_end, List.drop_eq_nil_of_le (by simp; omega)]
  rfl

set_option maxHeartbeats 400000 in
theorem trim_any (s : ByteArray) (w : World) (hs : s.size ≤ 281474976710656) :
    Calls Tryd.prog 13 #[.string s] w fun e w' => ∃ t : ByteArray, e = .returned (.string t) ∧ t.data.toList = Plain.trimZ s.data.toList ∧ t.size ≤ s.size ∧ w' = w := by
  go_enter Tryd.func13, Tryd.ntmps13
  go_wp2
  go_loop [3] (fun i => ∃ k : Nat, k ≤ s.size ∧ i = .int .i64 k ∧ Hid (Plain.trimZ s.data.toList = Plain.trimZ (s.data.toList.drop k))) (fun i => s.size - (intOf i).toNat)
  case atStart => exact ⟨0, Nat.zero_le _, rfl, rfl⟩
  case round =>
    obtain ⟨k, hk, rfl, ht⟩ := hrel
    by_cases hlt : k < s.size
    · by_cases h1 : (s[k].toNat : Int) = 48
      · have H2 := hide (trim_step s k hlt h1 ht.out)
        have h1' : ((s[k].toNat : Int) == 48) = true := by rw [beq_iff_eq]; exact h1
        clear h1 ht
        go_wp2
        go_round
        case rel => exact ⟨k + 1, by omega, by go_num, H2⟩
        case measure => simp [intOf]; omega
      · have H2 := hide (trim_stop s k hlt h1 ht.out)
        have h1' : ((s[k].toNat : Int) == 48) = false := beq_eq_false_iff_ne.2 h1
        go_wp2
        go_ret
        exact ⟨_, rfl, unhide H2, by rw [ByteArray.size_extract]; omega, rfl⟩
    · have H2 := hide (trim_end s k hlt ht.out)
      go_wp2
      go_ret
      exact ⟨_, rfl, unhide H2, by rw [ByteArray.size_extract]; omega, rfl⟩

theorem cmpU_any (x y : Int) (m n : Nat) (hx : x = m) (hy : y = n) (w : World) : Calls Tryd.prog 11 #[.int .u64 x, .int .u64 y] w fun e w' => e = .returned (.int .i64 (Plain.cmpU m n)) ∧ w' = w := by
  by_cases h1 : x < y
  · have e : Plain.cmpU m n = -1 := by rw [Plain.cmpU, if_pos (by omega)]
    rw [e]
    clear hx hy e
    go_enter Tryd.func11, Tryd.ntmps11
    go_wp2
    go_ret
    exact ⟨rfl, rfl⟩
  · by_cases h2 : y < x
    · have e : Plain.cmpU m n = 1 := by rw [Plain.cmpU, if_neg (by omega), if_pos (by omega)]
      rw [e]
      clear hx hy e
      go_enter Tryd.func11, Tryd.ntmps11
      go_wp2
      go_ret
      exact ⟨rfl, rfl⟩
    · have e : Plain.cmpU m n = 0 := by rw [Plain.cmpU, if_neg (by omega), if_neg (by omega)]
      rw [e]
      clear hx hy e
      go_enter Tryd.func11, Tryd.ntmps11
      go_wp2
      go_ret
      exact ⟨rfl, rfl⟩

theorem pow_le (k : Nat) (h : k ≤ 19) : ((10 ^ k : Nat) : Int) ≤ 10000000000000000000 := by
  have h1 : 10 ^ k ≤ 10 ^ 19 := Nat.pow_le_pow_right (by decide) h
  have p19 : (10 : Nat) ^ 19 = 10000000000000000000 := by decide
  rw [p19] at h1
  generalize 10 ^ k = q at h1 ⊢
  omega

set_option maxHeartbeats 400000 in
theorem pow_any (k : Nat) (hk : k ≤ 19) (w : World) :
    Calls Tryd.prog 15 #[.int .i64 k] w fun e w' => ∃ z : Int, e = .returned (.int .u64 z) ∧ z = ((10 ^ k : Nat) : Int) ∧ w' = w := by
  go_enter Tryd.func15, Tryd.ntmps15
  go_wp2
  go_loop [3, 4] (fun p i => ∃ (j : Nat) (z : Int), j ≤ k ∧ i = .int .i64 j ∧ p = .int .u64 z ∧ Hid (z = ((10 ^ j : Nat) : Int))) (fun _ i => k - (intOf i).toNat)
  case atStart => exact ⟨0, 1, Nat.zero_le _, rfl, rfl, rfl⟩
  case round =>
    obtain ⟨j, z, hj, rfl, rfl, hz⟩ := hrel
    by_cases hlt : j < k
    · have z0 : 0 ≤ z := by rw [hz.out]; exact Int.natCast_nonneg _
      have hn' : z * 10 = ((10 ^ (j + 1) : Nat) : Int) := by
        rw [hz.out, Nat.pow_succ]
        generalize 10 ^ j = q
        omega
      have z1 : z * 10 ≤ 10000000000000000000 := by
        rw [hn']
        exact pow_le (j + 1) (by omega)
      have hn := hide hn'
      clear hn'
      clear hz
      go_wp2
      go_round
      case rel => exact ⟨j + 1, z * 10, by omega, by go_num, rfl, hn⟩
      case measure => simp [intOf]; omega
    · have e : j = k := by omega
      subst e
      go_wp2
      go_ret
      exact ⟨z, rfl, hz.out, rfl⟩
end Go.Proofs.Qxb6614506aDoor
