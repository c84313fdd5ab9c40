/-
  zzUvarint (29).
-/
import Derived.Test.Qxb6615701aTflat
import Derived.Lib.VarintBits
import Derived.Lib.VarintDec
namespace Go.Proofs.Qxb6615701a
open Go Go.RowKit
set_option linter.unusedVariables false

theorem uv_head (y : Nat) (rest : List UInt8) : ∃ c : Nat, c < 256 ∧ (Lib.uvarint y ++ rest).head? = some c.toUInt8 ∧ ((y < 128 ∧ c = y ∧ (Lib.uvarint y ++ rest).tail = rest ∧ (Lib.uvarint y).length = 1) ∨ (128 ≤ y ∧ c = y % 128 + 128 ∧ (Lib.uvarint y ++ rest).tail = Lib.uvarint (y / 128) ++ rest ∧ (Lib.uvarint y).length = (Lib.uvarint (y / 128)).length + 1)) := by
  by_cases h : y < 128
  · exact ⟨y, by omega, by rw [Lib.uvarint_small h]; rfl, .inl ⟨h, rfl, by rw [Lib.uvarint_small h]; rfl, by rw [Lib.uvarint_small h]; rfl⟩⟩
  · exact ⟨y % 128 + 128, by omega, by rw [Lib.uvarint_big (by omega)]; rfl, .inr ⟨by omega, rfl, by rw [Lib.uvarint_big (by omega)]; rfl, by rw [Lib.uvarint_big (by omega)]; rfl⟩⟩

theorem drop_head {l m : List UInt8} {q : Nat} {c : UInt8} (h : l.drop q = m) (hc : m.head? = some c) : ∃ hq : q < l.length, l[q] = c ∧ l.drop (q + 1) = m.tail := by
  have hq : q < l.length := by
    rcases Nat.lt_or_ge q l.length with h1 | h1
    · exact h1
    · rw [List.drop_eq_nil_of_le h1] at h
      subst h
      cases hc
  refine ⟨hq, ?_, ?_⟩
  · rw [List.drop_eq_getElem_cons hq] at h
    subst h
    have h2 : l[q]? = some c := by simpa using hc
    rw [List.getElem?_eq_getElem hq] at h2
    exact Option.some.inj h2
  · rw [← h, List.tail_drop]

theorem and127 (c : Nat) (h : c < 256) : bits .and .u8 (c : Int) 127 = ((c % 128 : Nat) : Int) := by
  rw [u8_and127 _ (by omega) (by omega)]
  omega

theorem ret3 {a a' b b' : Int} (h1 : a = a') (h2 : b = b') : Ending.returned (.tuple #[.int .u64 a, .int .i64 b, .bool true]) = .returned (.tuple #[.int .u64 a', .int .i64 b', .bool true]) := by rw [h1, h2]
theorem step_lin {x acc y y' m C : Nat} (h : x = acc + y * C) (hy : y = 128 * y' + m) : x = acc + m * C + y' * (C * 128) := by
  subst hy
  rw [h, Nat.add_mul, Nat.mul_assoc, Nat.mul_left_comm y' C 128, Nat.mul_comm y' 128, Nat.mul_left_comm C 128 y', Nat.mul_comm C y']
  omega
theorem step_lt {acc m C : Nat} (h : acc < C) (hm : m < 128) : acc + m * C < C * 128 := by
  have h1 : (m + 1) * C ≤ 128 * C := Nat.mul_le_mul_right C hm
  rw [Nat.add_mul, Nat.one_mul] at h1
  rw [Nat.mul_comm C 128]
  omega

/-- The slice that is read. -/
structure Rd (w : World) (g cap : Nat) (l : List UInt8) : Prop where
  ch : Ch w g cap l
  cap : cap ≤ maxLen

theorem or_k0 (acc m : Nat) (ha : acc < 1) (hm : m * 1 + acc < 18446744073709551616) : bits .or .u64 (acc : Int) ((m : Int)) = ((acc + m : Nat) : Int) := by
  rw [u64_orv0 _ _ (by omega) (by omega) (by omega) (by omega) (by omega)]
  omega
theorem or_k1 (acc m : Nat) (ha : acc < 128) (hm : m * 128 + acc < 18446744073709551616) : bits .or .u64 (acc : Int) ((m : Int) * 128) = ((acc + m * 128 : Nat) : Int) := by
  rw [u64_orv7 _ _ (by omega) (by omega) (by omega) (by omega) (by omega)]
  omega
theorem or_k2 (acc m : Nat) (ha : acc < 16384) (hm : m * 16384 + acc < 18446744073709551616) : bits .or .u64 (acc : Int) ((m : Int) * 16384) = ((acc + m * 16384 : Nat) : Int) := by
  rw [u64_orv14 _ _ (by omega) (by omega) (by omega) (by omega) (by omega)]
  omega
theorem or_k3 (acc m : Nat) (ha : acc < 2097152) (hm : m * 2097152 + acc < 18446744073709551616) : bits .or .u64 (acc : Int) ((m : Int) * 2097152) = ((acc + m * 2097152 : Nat) : Int) := by
  rw [u64_orv21 _ _ (by omega) (by omega) (by omega) (by omega) (by omega)]
  omega
theorem or_k4 (acc m : Nat) (ha : acc < 268435456) (hm : m * 268435456 + acc < 18446744073709551616) : bits .or .u64 (acc : Int) ((m : Int) * 268435456) = ((acc + m * 268435456 : Nat) : Int) := by
  rw [u64_orv28 _ _ (by omega) (by omega) (by omega) (by omega) (by omega)]
  omega
theorem or_k5 (acc m : Nat) (ha : acc < 34359738368) (hm : m * 34359738368 + acc < 18446744073709551616) : bits .or .u64 (acc : Int) ((m : Int) * 34359738368) = ((acc + m * 34359738368 : Nat) : Int) := by
  rw [u64_orv35 _ _ (by omega) (by omega) (by omega) (by omega) (by omega)]
  omega
theorem or_k6 (acc m : Nat) (ha : acc < 4398046511104) (hm : m * 4398046511104 + acc < 18446744073709551616) : bits .or .u64 (acc : Int) ((m : Int) * 4398046511104) = ((acc + m * 4398046511104 : Nat) : Int) := by
  rw [u64_orv42 _ _ (by omega) (by omega) (by omega) (by omega) (by omega)]
  omega
theorem or_k7 (acc m : Nat) (ha : acc < 562949953421312) (hm : m * 562949953421312 + acc < 18446744073709551616) : bits .or .u64 (acc : Int) ((m : Int) * 562949953421312) = ((acc + m * 562949953421312 : Nat) : Int) := by
  rw [u64_orv49 _ _ (by omega) (by omega) (by omega) (by omega) (by omega)]
  omega
theorem or_k8 (acc m : Nat) (ha : acc < 72057594037927936) (hm : m * 72057594037927936 + acc < 18446744073709551616) : bits .or .u64 (acc : Int) ((m : Int) * 72057594037927936) = ((acc + m * 72057594037927936 : Nat) : Int) := by
  rw [u64_orv56 _ _ (by omega) (by omega) (by omega) (by omega) (by omega)]
  omega
theorem or_k9 (acc m : Nat) (ha : acc < 9223372036854775808) (hm : m * 9223372036854775808 + acc < 18446744073709551616) : bits .or .u64 (acc : Int) ((m : Int) * 9223372036854775808) = ((acc + m * 9223372036854775808 : Nat) : Int) := by
  rw [u64_orv63 _ _ (by omega) (by omega) (by omega) (by omega) (by omega)]
  omega

set_option maxHeartbeats 8000000 in
set_option maxRecDepth 100000 in
theorem uvd_ok (g cap : Nat) (l : List UInt8) (hl : l.length ≤ 2000000) (hcap : cap ≤ maxLen) (p x : Nat) (hx : x < 18446744073709551616) (rest : List UInt8) (hp : l.drop p = Lib.uvarint x ++ rest) (w : World) (hc : Ch w g cap l) :
    Calls Try.prog 29 #[.slice (some ⟨g, 0, none⟩) l.length cap, .int .i64 (p : Int)] w fun e w' => e = .returned (.tuple #[.int .u64 (x : Int), .int .i64 ((p + (Lib.uvarint x).length : Nat) : Int), .bool true]) ∧ w = w' := by
  have HC := hide hc
  have HP := hide hp
  have HX := hide hx
  have hle : p ≤ 2000000 := by
    rcases Nat.lt_or_ge p l.length with h | h
    · omega
    · rw [List.drop_eq_nil_of_le h] at hp
      have h1 := congrArg List.length hp
      have h2 := Lib.uvarint_pos x
      rw [List.length_append, List.length_nil] at h1
      omega
  clear hc hp hx
  go_enter Try.func29, Try.ntmps29
  go_wp2
  go_loop [1, 7, 8, 9] (fun vp vx vs vi => ∃ k acc y : Nat, vp = .int .i64 ((p + k : Nat) : Int) ∧ vx = .int .u64 (acc : Int) ∧ vs = .int .u64 ((7 * k : Nat) : Int) ∧ vi = .int .i64 (k : Int) ∧ k ≤ 9 ∧ Hid (acc < 128 ^ k) ∧ Hid (x = acc + y * 128 ^ k) ∧ Hid (l.drop (p + k) = Lib.uvarint y ++ rest) ∧ Hid ((Lib.uvarint x).length = k + (Lib.uvarint y).length))
    (fun _ _ _ vi => 10 - (intOf vi).toNat)
  case atStart => exact ⟨0, 0, x, by simp, rfl, rfl, rfl, by omega, hide (by simp), hide (by simp), hide (by simpa using HP.out), hide (by simp)⟩
  case round =>
    obtain ⟨k, acc, y, rfl, rfl, rfl, rfl, hk9, hacc, hxy, hdrop, hlen⟩ := hrel
    obtain ⟨c, hc256, hhead, hcase⟩ := uv_head y rest
    obtain ⟨hq, hcc, hdr⟩ := drop_head hdrop.out hhead
    have hcell := HC.out.cellAt (p + k) hq
    rw [hcc] at hcell
    have ecc : ((c.toUInt8).toNat : Int) = (c : Int) := by
      rw [Nat.toUInt8, UInt8.toNat_ofNat']
      omega
    rw [ecc] at hcell
    have hand := and127 c hc256
    have hqi : ((p + k : Nat) : Int) < (l.length : Int) := by omega
    have HDR := hide hdr
    have HCASE := hide hcase
    have hxl := HX.out
    clear hcc hhead hdr hcase ecc
    have hks : k = 0 ∨ k = 1 ∨ k = 2 ∨ k = 3 ∨ k = 4 ∨ k = 5 ∨ k = 6 ∨ k = 7 ∨ k = 8 ∨ k = 9 := by omega
    rcases hks with rfl | rfl | rfl | rfl | rfl | rfl | rfl | rfl | rfl | rfl
    · rw [Nat.add_zero] at hcell
      have ha : acc < 1 := by simpa using hacc.out
      have hxe : x = acc + y * 1 := by simpa using hxy.out
      have HXE := hide hxe
      rcases HCASE.out with ⟨h1, h2, h3, h4⟩ | ⟨h1, h2, h3, h4⟩
      · have hc128 : c < 128 := by omega
        have hcm : c % 128 = c := by omega
        have hor := or_k0 acc c ha (by omega)
        have hb : c * 1 < 18446744073709551616 := by omega
        have E1 : x = acc + c := by omega
        have E2 : (Lib.uvarint x).length = 0 + 1 := by rw [hlen.out, h4]
        have HE1 := hide E1
        have HE2 := hide E2
        rw [hcm] at hand
        clear h1 h2 h3 h4 hxe E1 E2 HDR HCASE hlen hdrop hxy hacc HXE
        go_wp2
        go_ret3
        exact ⟨ret3 (by rw [HE1.out]; rw [Int.natCast_add]) (by rw [HE2.out]; omega), rfl⟩
      · obtain ⟨y', m, hy, hm⟩ : ∃ y' m, y = 128 * y' + m ∧ m < 128 := ⟨y / 128, y % 128, by omega, by omega⟩
        have hyd : y / 128 = y' := by omega
        have hc2 : c % 128 = m := by omega
        have hcc2 : c = m + 128 := by omega
        have hxn := step_lin hxe hy
        have han := step_lt ha hm
        rw [hyd] at h3 h4
        have hor := or_k0 acc m ha (by omega)
        have hb : m * 1 < 18446744073709551616 := by omega
        rw [hc2] at hand
        have HR : Hid (acc + m < 128 ^ (0 + 1) ∧ x = acc + m + y' * 128 ^ (0 + 1) ∧ l.drop (p + (0 + 1)) = Lib.uvarint y' ++ rest ∧ (Lib.uvarint x).length = 0 + 1 + (Lib.uvarint y').length) := hide (by
          have e : (128 : Nat) ^ (0 + 1) = 1 * 128 := by decide
          rw [e]
          refine ⟨by rw [Nat.mul_one] at han; exact han, by rw [Nat.mul_one] at hxn; exact hxn, ?_, ?_⟩
          · rw [← h3]; exact HDR.out
          · rw [hlen.out, h4]; omega)
        clear h1 h2 h3 h4 hxe hy hyd hxn han HDR HCASE hlen hdrop hxy hacc HXE hc2
        have h128c : ¬ (c : Int) < 128 := by omega
        clear hcc2
        go_wp2
        go_round
        case rel => exact ⟨0 + 1, acc + m, y', by go_num, by rw [Int.natCast_add], rfl, rfl, by omega, hide HR.out.1, hide HR.out.2.1, hide HR.out.2.2.1, hide HR.out.2.2.2⟩
        case measure => simp [intOf]
    · have ha : acc < 128 := by simpa using hacc.out
      have hxe : x = acc + y * 128 := by simpa using hxy.out
      have HXE := hide hxe
      rcases HCASE.out with ⟨h1, h2, h3, h4⟩ | ⟨h1, h2, h3, h4⟩
      · have hc128 : c < 128 := by omega
        have hcm : c % 128 = c := by omega
        have hor := or_k1 acc c ha (by omega)
        have hb : c * 128 < 18446744073709551616 := by omega
        have E1 : x = acc + c * 128 := by rw [h2]; exact hxe
        have E2 : (Lib.uvarint x).length = 1 + 1 := by rw [hlen.out, h4]
        have HE1 := hide E1
        have HE2 := hide E2
        rw [hcm] at hand
        clear h1 h2 h3 h4 hxe E1 E2 HDR HCASE hlen hdrop hxy hacc HXE
        go_wp2
        go_ret3
        exact ⟨ret3 (by rw [HE1.out]; rw [Int.natCast_add, Int.natCast_mul]; rfl) (by rw [HE2.out]; omega), rfl⟩
      · obtain ⟨y', m, hy, hm⟩ : ∃ y' m, y = 128 * y' + m ∧ m < 128 := ⟨y / 128, y % 128, by omega, by omega⟩
        have hyd : y / 128 = y' := by omega
        have hc2 : c % 128 = m := by omega
        have hcc2 : c = m + 128 := by omega
        have hxn := step_lin hxe hy
        have han := step_lt ha hm
        rw [hyd] at h3 h4
        have hor := or_k1 acc m ha (by omega)
        have hb : m * 128 < 18446744073709551616 := by omega
        rw [hc2] at hand
        have HR : Hid (acc + m * 128 < 128 ^ (1 + 1) ∧ x = acc + m * 128 + y' * 128 ^ (1 + 1) ∧ l.drop (p + (1 + 1)) = Lib.uvarint y' ++ rest ∧ (Lib.uvarint x).length = 1 + 1 + (Lib.uvarint y').length) := hide (by
          have e : (128 : Nat) ^ (1 + 1) = 128 * 128 := by decide
          rw [e]
          refine ⟨han, hxn, ?_, ?_⟩
          · rw [← h3]; exact HDR.out
          · rw [hlen.out, h4]; omega)
        clear h1 h2 h3 h4 hxe hy hyd hxn han HDR HCASE hlen hdrop hxy hacc HXE hc2
        have h128c : ¬ (c : Int) < 128 := by omega
        clear hcc2
        go_wp2
        go_round
        case rel => exact ⟨1 + 1, acc + m * 128, y', by go_num, by rw [Int.natCast_add, Int.natCast_mul]; rfl, rfl, rfl, by omega, hide HR.out.1, hide HR.out.2.1, hide HR.out.2.2.1, hide HR.out.2.2.2⟩
        case measure => simp [intOf]
    · have ha : acc < 16384 := by simpa using hacc.out
      have hxe : x = acc + y * 16384 := by simpa using hxy.out
      have HXE := hide hxe
      rcases HCASE.out with ⟨h1, h2, h3, h4⟩ | ⟨h1, h2, h3, h4⟩
      · have hc128 : c < 128 := by omega
        have hcm : c % 128 = c := by omega
        have hor := or_k2 acc c ha (by omega)
        have hb : c * 16384 < 18446744073709551616 := by omega
        have E1 : x = acc + c * 16384 := by rw [h2]; exact hxe
        have E2 : (Lib.uvarint x).length = 2 + 1 := by rw [hlen.out, h4]
        have HE1 := hide E1
        have HE2 := hide E2
        rw [hcm] at hand
        clear h1 h2 h3 h4 hxe E1 E2 HDR HCASE hlen hdrop hxy hacc HXE
        go_wp2
        go_ret3
        exact ⟨ret3 (by rw [HE1.out]; rw [Int.natCast_add, Int.natCast_mul]; rfl) (by rw [HE2.out]; omega), rfl⟩
      · obtain ⟨y', m, hy, hm⟩ : ∃ y' m, y = 128 * y' + m ∧ m < 128 := ⟨y / 128, y % 128, by omega, by omega⟩
        have hyd : y / 128 = y' := by omega
        have hc2 : c % 128 = m := by omega
        have hcc2 : c = m + 128 := by omega
        have hxn := step_lin hxe hy
        have han := step_lt ha hm
        rw [hyd] at h3 h4
        have hor := or_k2 acc m ha (by omega)
        have hb : m * 16384 < 18446744073709551616 := by omega
        rw [hc2] at hand
        have HR : Hid (acc + m * 16384 < 128 ^ (2 + 1) ∧ x = acc + m * 16384 + y' * 128 ^ (2 + 1) ∧ l.drop (p + (2 + 1)) = Lib.uvarint y' ++ rest ∧ (Lib.uvarint x).length = 2 + 1 + (Lib.uvarint y').length) := hide (by
          have e : (128 : Nat) ^ (2 + 1) = 16384 * 128 := by decide
          rw [e]
          refine ⟨han, hxn, ?_, ?_⟩
          · rw [← h3]; exact HDR.out
          · rw [hlen.out, h4]; omega)
        clear h1 h2 h3 h4 hxe hy hyd hxn han HDR HCASE hlen hdrop hxy hacc HXE hc2
        have h128c : ¬ (c : Int) < 128 := by omega
        clear hcc2
        go_wp2
        go_round
        case rel => exact ⟨2 + 1, acc + m * 16384, y', by go_num, by rw [Int.natCast_add, Int.natCast_mul]; rfl, rfl, rfl, by omega, hide HR.out.1, hide HR.out.2.1, hide HR.out.2.2.1, hide HR.out.2.2.2⟩
        case measure => simp [intOf]
    · have ha : acc < 2097152 := by simpa using hacc.out
      have hxe : x = acc + y * 2097152 := by simpa using hxy.out
      have HXE := hide hxe
      rcases HCASE.out with ⟨h1, h2, h3, h4⟩ | ⟨h1, h2, h3, h4⟩
      · have hc128 : c < 128 := by omega
        have hcm : c % 128 = c := by omega
        have hor := or_k3 acc c ha (by omega)
        have hb : c * 2097152 < 18446744073709551616 := by omega
        have E1 : x = acc + c * 2097152 := by rw [h2]; exact hxe
        have E2 : (Lib.uvarint x).length = 3 + 1 := by rw [hlen.out, h4]
        have HE1 := hide E1
        have HE2 := hide E2
        rw [hcm] at hand
        clear h1 h2 h3 h4 hxe E1 E2 HDR HCASE hlen hdrop hxy hacc HXE
        go_wp2
        go_ret3
        exact ⟨ret3 (by rw [HE1.out]; rw [Int.natCast_add, Int.natCast_mul]; rfl) (by rw [HE2.out]; omega), rfl⟩
      · obtain ⟨y', m, hy, hm⟩ : ∃ y' m, y = 128 * y' + m ∧ m < 128 := ⟨y / 128, y % 128, by omega, by omega⟩
        have hyd : y / 128 = y' := by omega
        have hc2 : c % 128 = m := by omega
        have hcc2 : c = m + 128 := by omega
        have hxn := step_lin hxe hy
        have han := step_lt ha hm
        rw [hyd] at h3 h4
        have hor := or_k3 acc m ha (by omega)
        have hb : m * 2097152 < 18446744073709551616 := by omega
        rw [hc2] at hand
        have HR : Hid (acc + m * 2097152 < 128 ^ (3 + 1) ∧ x = acc + m * 2097152 + y' * 128 ^ (3 + 1) ∧ l.drop (p + (3 + 1)) = Lib.uvarint y' ++ rest ∧ (Lib.uvarint x).length = 3 + 1 + (Lib.uvarint y').length) := hide (by
          have e : (128 : Nat) ^ (3 + 1) = 2097152 * 128 := by decide
          rw [e]
          refine ⟨han, hxn, ?_, ?_⟩
          · rw [← h3]; exact HDR.out
          · rw [hlen.out, h4]; omega)
        clear h1 h2 h3 h4 hxe hy hyd hxn han HDR HCASE hlen hdrop hxy hacc HXE hc2
        have h128c : ¬ (c : Int) < 128 := by omega
        clear hcc2
        go_wp2
        go_round
        case rel => exact ⟨3 + 1, acc + m * 2097152, y', by go_num, by rw [Int.natCast_add, Int.natCast_mul]; rfl, rfl, rfl, by omega, hide HR.out.1, hide HR.out.2.1, hide HR.out.2.2.1, hide HR.out.2.2.2⟩
        case measure => simp [intOf]
    · have ha : acc < 268435456 := by simpa using hacc.out
      have hxe : x = acc + y * 268435456 := by simpa using hxy.out
      have HXE := hide hxe
      rcases HCASE.out with ⟨h1, h2, h3, h4⟩ | ⟨h1, h2, h3, h4⟩
      · have hc128 : c < 128 := by omega
        have hcm : c % 128 = c := by omega
        have hor := or_k4 acc c ha (by omega)
        have hb : c * 268435456 < 18446744073709551616 := by omega
        have E1 : x = acc + c * 268435456 := by rw [h2]; exact hxe
        have E2 : (Lib.uvarint x).length = 4 + 1 := by rw [hlen.out, h4]
        have HE1 := hide E1
        have HE2 := hide E2
        rw [hcm] at hand
        clear h1 h2 h3 h4 hxe E1 E2 HDR HCASE hlen hdrop hxy hacc HXE
        go_wp2
        go_ret3
        exact ⟨ret3 (by rw [HE1.out]; rw [Int.natCast_add, Int.natCast_mul]; rfl) (by rw [HE2.out]; omega), rfl⟩
      · obtain ⟨y', m, hy, hm⟩ : ∃ y' m, y = 128 * y' + m ∧ m < 128 := ⟨y / 128, y % 128, by omega, by omega⟩
        have hyd : y / 128 = y' := by omega
        have hc2 : c % 128 = m := by omega
        have hcc2 : c = m + 128 := by omega
        have hxn := step_lin hxe hy
        have han := step_lt ha hm
        rw [hyd] at h3 h4
        have hor := or_k4 acc m ha (by omega)
        have hb : m * 268435456 < 18446744073709551616 := by omega
        rw [hc2] at hand
        have HR : Hid (acc + m * 268435456 < 128 ^ (4 + 1) ∧ x = acc + m * 268435456 + y' * 128 ^ (4 + 1) ∧ l.drop (p + (4 + 1)) = Lib.uvarint y' ++ rest ∧ (Lib.uvarint x).length = 4 + 1 + (Lib.uvarint y').length) := hide (by
          have e : (128 : Nat) ^ (4 + 1) = 268435456 * 128 := by decide
          rw [e]
          refine ⟨han, hxn, ?_, ?_⟩
          · rw [← h3]; exact HDR.out
          · rw [hlen.out, h4]; omega)
        clear h1 h2 h3 h4 hxe hy hyd hxn han HDR HCASE hlen hdrop hxy hacc HXE hc2
        have h128c : ¬ (c : Int) < 128 := by omega
        clear hcc2
        go_wp2
        go_round
        case rel => exact ⟨4 + 1, acc + m * 268435456, y', by go_num, by rw [Int.natCast_add, Int.natCast_mul]; rfl, rfl, rfl, by omega, hide HR.out.1, hide HR.out.2.1, hide HR.out.2.2.1, hide HR.out.2.2.2⟩
        case measure => simp [intOf]
    · have ha : acc < 34359738368 := by simpa using hacc.out
      have hxe : x = acc + y * 34359738368 := by simpa using hxy.out
      have HXE := hide hxe
      rcases HCASE.out with ⟨h1, h2, h3, h4⟩ | ⟨h1, h2, h3, h4⟩
      · have hc128 : c < 128 := by omega
        have hcm : c % 128 = c := by omega
        have hor := or_k5 acc c ha (by omega)
        have hb : c * 34359738368 < 18446744073709551616 := by omega
        have E1 : x = acc + c * 34359738368 := by rw [h2]; exact hxe
        have E2 : (Lib.uvarint x).length = 5 + 1 := by rw [hlen.out, h4]
        have HE1 := hide E1
        have HE2 := hide E2
        rw [hcm] at hand
        clear h1 h2 h3 h4 hxe E1 E2 HDR HCASE hlen hdrop hxy hacc HXE
        go_wp2
        go_ret3
        exact ⟨ret3 (by rw [HE1.out]; rw [Int.natCast_add, Int.natCast_mul]; rfl) (by rw [HE2.out]; omega), rfl⟩
      · obtain ⟨y', m, hy, hm⟩ : ∃ y' m, y = 128 * y' + m ∧ m < 128 := ⟨y / 128, y % 128, by omega, by omega⟩
        have hyd : y / 128 = y' := by omega
        have hc2 : c % 128 = m := by omega
        have hcc2 : c = m + 128 := by omega
        have hxn := step_lin hxe hy
        have han := step_lt ha hm
        rw [hyd] at h3 h4
        have hor := or_k5 acc m ha (by omega)
        have hb : m * 34359738368 < 18446744073709551616 := by omega
        rw [hc2] at hand
        have HR : Hid (acc + m * 34359738368 < 128 ^ (5 + 1) ∧ x = acc + m * 34359738368 + y' * 128 ^ (5 + 1) ∧ l.drop (p + (5 + 1)) = Lib.uvarint y' ++ rest ∧ (Lib.uvarint x).length = 5 + 1 + (Lib.uvarint y').length) := hide (by
          have e : (128 : Nat) ^ (5 + 1) = 34359738368 * 128 := by decide
          rw [e]
          refine ⟨han, hxn, ?_, ?_⟩
          · rw [← h3]; exact HDR.out
          · rw [hlen.out, h4]; omega)
        clear h1 h2 h3 h4 hxe hy hyd hxn han HDR HCASE hlen hdrop hxy hacc HXE hc2
        have h128c : ¬ (c : Int) < 128 := by omega
        clear hcc2
        go_wp2
        go_round
        case rel => exact ⟨5 + 1, acc + m * 34359738368, y', by go_num, by rw [Int.natCast_add, Int.natCast_mul]; rfl, rfl, rfl, by omega, hide HR.out.1, hide HR.out.2.1, hide HR.out.2.2.1, hide HR.out.2.2.2⟩
        case measure => simp [intOf]
    · have ha : acc < 4398046511104 := by simpa using hacc.out
      have hxe : x = acc + y * 4398046511104 := by simpa using hxy.out
      have HXE := hide hxe
      rcases HCASE.out with ⟨h1, h2, h3, h4⟩ | ⟨h1, h2, h3, h4⟩
      · have hc128 : c < 128 := by omega
        have hcm : c % 128 = c := by omega
        have hor := or_k6 acc c ha (by omega)
        have hb : c * 4398046511104 < 18446744073709551616 := by omega
        have E1 : x = acc + c * 4398046511104 := by rw [h2]; exact hxe
        have E2 : (Lib.uvarint x).length = 6 + 1 := by rw [hlen.out, h4]
        have HE1 := hide E1
        have HE2 := hide E2
        rw [hcm] at hand
        clear h1 h2 h3 h4 hxe E1 E2 HDR HCASE hlen hdrop hxy hacc HXE
        go_wp2
        go_ret3
        exact ⟨ret3 (by rw [HE1.out]; rw [Int.natCast_add, Int.natCast_mul]; rfl) (by rw [HE2.out]; omega), rfl⟩
      · obtain ⟨y', m, hy, hm⟩ : ∃ y' m, y = 128 * y' + m ∧ m < 128 := ⟨y / 128, y % 128, by omega, by omega⟩
        have hyd : y / 128 = y' := by omega
        have hc2 : c % 128 = m := by omega
        have hcc2 : c = m + 128 := by omega
        have hxn := step_lin hxe hy
        have han := step_lt ha hm
        rw [hyd] at h3 h4
        have hor := or_k6 acc m ha (by omega)
        have hb : m * 4398046511104 < 18446744073709551616 := by omega
        rw [hc2] at hand
        have HR : Hid (acc + m * 4398046511104 < 128 ^ (6 + 1) ∧ x = acc + m * 4398046511104 + y' * 128 ^ (6 + 1) ∧ l.drop (p + (6 + 1)) = Lib.uvarint y' ++ rest ∧ (Lib.uvarint x).length = 6 + 1 + (Lib.uvarint y').length) := hide (by
          have e : (128 : Nat) ^ (6 + 1) = 4398046511104 * 128 := by decide
          rw [e]
          refine ⟨han, hxn, ?_, ?_⟩
          · rw [← h3]; exact HDR.out
          · rw [hlen.out, h4]; omega)
        clear h1 h2 h3 h4 hxe hy hyd hxn han HDR HCASE hlen hdrop hxy hacc HXE hc2
        have h128c : ¬ (c : Int) < 128 := by omega
        clear hcc2
        go_wp2
        go_round
        case rel => exact ⟨6 + 1, acc + m * 4398046511104, y', by go_num, by rw [Int.natCast_add, Int.natCast_mul]; rfl, rfl, rfl, by omega, hide HR.out.1, hide HR.out.2.1, hide HR.out.2.2.1, hide HR.out.2.2.2⟩
        case measure => simp [intOf]
    · have ha : acc < 562949953421312 := by simpa using hacc.out
      have hxe : x = acc + y * 562949953421312 := by simpa using hxy.out
      have HXE := hide hxe
      rcases HCASE.out with ⟨h1, h2, h3, h4⟩ | ⟨h1, h2, h3, h4⟩
      · have hc128 : c < 128 := by omega
        have hcm : c % 128 = c := by omega
        have hor := or_k7 acc c ha (by omega)
        have hb : c * 562949953421312 < 18446744073709551616 := by omega
        have E1 : x = acc + c * 562949953421312 := by rw [h2]; exact hxe
        have E2 : (Lib.uvarint x).length = 7 + 1 := by rw [hlen.out, h4]
        have HE1 := hide E1
        have HE2 := hide E2
        rw [hcm] at hand
        clear h1 h2 h3 h4 hxe E1 E2 HDR HCASE hlen hdrop hxy hacc HXE
        go_wp2
        go_ret3
        exact ⟨ret3 (by rw [HE1.out]; rw [Int.natCast_add, Int.natCast_mul]; rfl) (by rw [HE2.out]; omega), rfl⟩
      · obtain ⟨y', m, hy, hm⟩ : ∃ y' m, y = 128 * y' + m ∧ m < 128 := ⟨y / 128, y % 128, by omega, by omega⟩
        have hyd : y / 128 = y' := by omega
        have hc2 : c % 128 = m := by omega
        have hcc2 : c = m + 128 := by omega
        have hxn := step_lin hxe hy
        have han := step_lt ha hm
        rw [hyd] at h3 h4
        have hor := or_k7 acc m ha (by omega)
        have hb : m * 562949953421312 < 18446744073709551616 := by omega
        rw [hc2] at hand
        have HR : Hid (acc + m * 562949953421312 < 128 ^ (7 + 1) ∧ x = acc + m * 562949953421312 + y' * 128 ^ (7 + 1) ∧ l.drop (p + (7 + 1)) = Lib.uvarint y' ++ rest ∧ (Lib.uvarint x).length = 7 + 1 + (Lib.uvarint y').length) := hide (by
          have e : (128 : Nat) ^ (7 + 1) = 562949953421312 * 128 := by decide
          rw [e]
          refine ⟨han, hxn, ?_, ?_⟩
          · rw [← h3]; exact HDR.out
          · rw [hlen.out, h4]; omega)
        clear h1 h2 h3 h4 hxe hy hyd hxn han HDR HCASE hlen hdrop hxy hacc HXE hc2
        have h128c : ¬ (c : Int) < 128 := by omega
        clear hcc2
        go_wp2
        go_round
        case rel => exact ⟨7 + 1, acc + m * 562949953421312, y', by go_num, by rw [Int.natCast_add, Int.natCast_mul]; rfl, rfl, rfl, by omega, hide HR.out.1, hide HR.out.2.1, hide HR.out.2.2.1, hide HR.out.2.2.2⟩
        case measure => simp [intOf]
    · have ha : acc < 72057594037927936 := by simpa using hacc.out
      have hxe : x = acc + y * 72057594037927936 := by simpa using hxy.out
      have HXE := hide hxe
      rcases HCASE.out with ⟨h1, h2, h3, h4⟩ | ⟨h1, h2, h3, h4⟩
      · have hc128 : c < 128 := by omega
        have hcm : c % 128 = c := by omega
        have hor := or_k8 acc c ha (by omega)
        have hb : c * 72057594037927936 < 18446744073709551616 := by omega
        have E1 : x = acc + c * 72057594037927936 := by rw [h2]; exact hxe
        have E2 : (Lib.uvarint x).length = 8 + 1 := by rw [hlen.out, h4]
        have HE1 := hide E1
        have HE2 := hide E2
        rw [hcm] at hand
        clear h1 h2 h3 h4 hxe E1 E2 HDR HCASE hlen hdrop hxy hacc HXE
        go_wp2
        go_ret3
        exact ⟨ret3 (by rw [HE1.out]; rw [Int.natCast_add, Int.natCast_mul]; rfl) (by rw [HE2.out]; omega), rfl⟩
      · obtain ⟨y', m, hy, hm⟩ : ∃ y' m, y = 128 * y' + m ∧ m < 128 := ⟨y / 128, y % 128, by omega, by omega⟩
        have hyd : y / 128 = y' := by omega
        have hc2 : c % 128 = m := by omega
        have hcc2 : c = m + 128 := by omega
        have hxn := step_lin hxe hy
        have han := step_lt ha hm
        rw [hyd] at h3 h4
        have hor := or_k8 acc m ha (by omega)
        have hb : m * 72057594037927936 < 18446744073709551616 := by omega
        rw [hc2] at hand
        have HR : Hid (acc + m * 72057594037927936 < 128 ^ (8 + 1) ∧ x = acc + m * 72057594037927936 + y' * 128 ^ (8 + 1) ∧ l.drop (p + (8 + 1)) = Lib.uvarint y' ++ rest ∧ (Lib.uvarint x).length = 8 + 1 + (Lib.uvarint y').length) := hide (by
          have e : (128 : Nat) ^ (8 + 1) = 72057594037927936 * 128 := by decide
          rw [e]
          refine ⟨han, hxn, ?_, ?_⟩
          · rw [← h3]; exact HDR.out
          · rw [hlen.out, h4]; omega)
        clear h1 h2 h3 h4 hxe hy hyd hxn han HDR HCASE hlen hdrop hxy hacc HXE hc2
        have h128c : ¬ (c : Int) < 128 := by omega
        clear hcc2
        go_wp2
        go_round
        case rel => exact ⟨8 + 1, acc + m * 72057594037927936, y', by go_num, by rw [Int.natCast_add, Int.natCast_mul]; rfl, rfl, rfl, by omega, hide HR.out.1, hide HR.out.2.1, hide HR.out.2.2.1, hide HR.out.2.2.2⟩
        case measure => simp [intOf]
    · have ha : acc < 9223372036854775808 := by simpa using hacc.out
      have hxe : x = acc + y * 9223372036854775808 := by simpa using hxy.out
      have HXE := hide hxe
      rcases HCASE.out with ⟨h1, h2, h3, h4⟩ | ⟨h1, h2, h3, h4⟩
      · have hc128 : c < 128 := by omega
        have hcm : c % 128 = c := by omega
        have hor := or_k9 acc c ha (by omega)
        have hb : c * 9223372036854775808 < 18446744073709551616 := by omega
        have E1 : x = acc + c * 9223372036854775808 := by rw [h2]; exact hxe
        have E2 : (Lib.uvarint x).length = 9 + 1 := by rw [hlen.out, h4]
        have HE1 := hide E1
        have HE2 := hide E2
        rw [hcm] at hand
        clear h1 h2 h3 h4 hxe E1 E2 HDR HCASE hlen hdrop hxy hacc HXE
        go_wp2
        go_ret3
        exact ⟨ret3 (by rw [HE1.out]; rw [Int.natCast_add, Int.natCast_mul]; rfl) (by rw [HE2.out]; omega), rfl⟩
      · exfalso
        have hy1 : 128 * 9223372036854775808 ≤ y * 9223372036854775808 := Nat.mul_le_mul_right _ h1
        rw [← hxe.symm.trans rfl] at hxl
        omega
end Go.Proofs.Qxb6615701a
