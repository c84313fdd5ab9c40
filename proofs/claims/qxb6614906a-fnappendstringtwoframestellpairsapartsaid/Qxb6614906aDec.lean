/-
  readUvarintAt (14): it reads back what AppendUvarint wrote.
-/
import Derived.Test.Qxb6614906aRead
namespace Go.Proofs.Qxb6614906a
open Go Go.RowKit
set_option linter.unusedVariables false

theorem head_small {l rest : List UInt8} {k y : Nat} (h : l.drop k = Lib.uvarint y ++ rest) (hy : y < 128) (hk : k < l.length) : (l[k]).toNat = y := by
  rw [List.drop_eq_getElem_cons hk, Lib.uvarint_small hy] at h
  injection h with h1 _
  rw [h1]
  simp only [Nat.toUInt8, UInt8.toNat_ofNat']
  omega
theorem head_big {l rest : List UInt8} {k y : Nat} (h : l.drop k = Lib.uvarint y ++ rest) (hy : 128 ≤ y) (hk : k < l.length) : (l[k]).toNat = y % 128 + 128 ∧ l.drop (k + 1) = Lib.uvarint (y / 128) ++ rest := by
  rw [List.drop_eq_getElem_cons hk, Lib.uvarint_big hy] at h
  injection h with h1 h2
  refine ⟨?_, h2⟩
  rw [h1]
  simp only [Nat.toUInt8, UInt8.toNat_ofNat']
  omega
theorem drop_lt {l rest : List UInt8} {k y : Nat} (h : l.drop k = Lib.uvarint y ++ rest) : k < l.length := by
  have := congrArg List.length h
  rw [List.length_drop, List.length_append] at this
  have := Lib.uvarint_pos y
  omega

theorem or0 (b : UInt8) : bits .or .u64 0 (IntKind.u64.wrap (IntKind.u64.wrap (bits .and .u8 (b.toNat : Int) 127))) = ((b.toNat % 128 : Nat) : Int) := by
  have hb := b.toNat_lt
  simp (disch := omega) only [u8_and127, u64_wrap_id, u64_orv0]
  omega
theorem or1 (b : UInt8) (acc : Nat) (h : acc < 128) : bits .or .u64 (acc : Int) (IntKind.u64.wrap (IntKind.u64.wrap (bits .and .u8 (b.toNat : Int) 127) * 128)) = ((acc + b.toNat % 128 * 128 : Nat) : Int) := by
  have hb := b.toNat_lt
  simp (disch := omega) only [u8_and127, u64_wrap_id, u64_orv7]
  omega
theorem or2 (b : UInt8) (acc : Nat) (h : acc < 16384) : bits .or .u64 (acc : Int) (IntKind.u64.wrap (IntKind.u64.wrap (bits .and .u8 (b.toNat : Int) 127) * 16384)) = ((acc + b.toNat % 128 * 16384 : Nat) : Int) := by
  have hb := b.toNat_lt
  simp (disch := omega) only [u8_and127, u64_wrap_id, u64_orv14]
  omega

theorem ret3 {a b : Int} {c d : Int} (h1 : a = c) (h2 : b = d) : Ending.returned (.tuple #[.int .i64 a, .int .u64 b, .bool true]) = .returned (.tuple #[.int .i64 c, .int .u64 d, .bool true]) := by rw [h1, h2]

set_option maxHeartbeats 1600000 in
set_option maxRecDepth 100000 in
theorem read_any (g cap n k0 x : Nat) (l rest : List UInt8) (hln : l.length = n) (hn : n ≤ 8388608) (hnc : n ≤ cap) (hx : x ≤ 262144) (hd : l.drop k0 = Lib.uvarint x ++ rest) (w : World)
    (hc : ∀ j (hj : j < l.length), w.cell? ⟨g, j, none⟩ = some (.int .u8 (l[j]).toNat)) :
    Calls Try.prog 14 #[.slice (some ⟨g, 0, none⟩) n cap, .int .i64 k0] w fun e w' => e = .returned (.tuple #[.int .i64 (Lib.uvarint x).length, .int .u64 x, .bool true]) ∧ w' = w := by
  have hk0 : k0 < n := by rw [← hln]; exact drop_lt hd
  have HC := hide hc
  have HL := hide hln
  have HD := hide hd
  clear hc hln hd
  go_enter Try.func14, Try.ntmps14
  go_wp2
  go_loop [7, 8, 9] (fun vv vn vi => ∃ (j y acc : Nat), j ≤ 2 ∧ vn = .int .i64 j ∧ vi = .int .i64 ((k0 + j : Nat) : Int) ∧ vv = .int .u64 acc ∧ Hid (x = acc + 128 ^ j * y ∧ acc < 128 ^ j ∧ l.drop (k0 + j) = Lib.uvarint y ++ rest ∧ (Lib.uvarint x).length = j + (Lib.uvarint y).length)) (fun _ vn _ => 3 - (intOf vn).toNat)
  case atStart => exact ⟨0, x, 0, by omega, rfl, rfl, rfl, by omega, by omega, unhide HD, by omega⟩
  case round =>
    obtain ⟨j, y, acc, hj, rfl, rfl, rfl, hh⟩ := hrel
    obtain ⟨h1, h2, h3, h4⟩ := hh.out
    clear hh
    have hk := drop_lt h3
    have hkn : k0 + j < n := by rw [← unhide HL]; exact hk
    have hcell := unhide HC (k0 + j) hk
    have hks : j = 0 ∨ j = 1 ∨ j = 2 := by omega
    by_cases hy : y < 128
    · have hb := head_small h3 hy hk
      generalize l[k0 + j] = b at hcell hb
      subst hb
      have hl4 : (Lib.uvarint x).length = j + 1 := by rw [h4, Plain.uv_len_small hy]
      clear h3 h4 hk
      rcases hks with rfl | rfl | rfl
      · obtain rfl : acc = 0 := by omega
        have hc0 : w.cell? ⟨g, k0, none⟩ = some (.int .u8 b.toNat) := hcell
        have hor := or0 b
        have R := hide (And.intro (show (1 : Int) = (Lib.uvarint x).length by omega) (show ((b.toNat % 128 : Nat) : Int) = x by omega))
        clear hl4 h1 h2 hx
        go_wp2
        go_ret3
        exact ⟨ret3 (unhide R).1 (unhide R).2, rfl⟩
      · have hor := or1 b acc (by omega)
        have R := hide (And.intro (show (2 : Int) = (Lib.uvarint x).length by omega) (show ((acc + b.toNat % 128 * 128 : Nat) : Int) = x by omega))
        clear hl4 h1 h2 hx
        go_wp2
        go_ret3
        exact ⟨ret3 (unhide R).1 (unhide R).2, rfl⟩
      · have hor := or2 b acc (by omega)
        have R := hide (And.intro (show (3 : Int) = (Lib.uvarint x).length by omega) (show ((acc + b.toNat % 128 * 16384 : Nat) : Int) = x by omega))
        clear hl4 h1 h2 hx
        go_wp2
        go_ret3
        exact ⟨ret3 (unhide R).1 (unhide R).2, rfl⟩
    · have hb := head_big h3 (by omega) hk
      obtain ⟨hb, h5⟩ := hb
      generalize l[k0 + j] = b at hcell hb
      have hl4 : (Lib.uvarint x).length = j + 1 + (Lib.uvarint (y / 128)).length := by rw [h4, Plain.uv_len_step (by omega)]; omega
      have hb128 : 128 ≤ b.toNat := by omega
      clear h3 h4 hk
      rcases hks with rfl | rfl | rfl
      · obtain rfl : acc = 0 := by omega
        have hc0 : w.cell? ⟨g, k0, none⟩ = some (.int .u8 b.toNat) := hcell
        have hor := or0 b
        have R : Hid (x = b.toNat % 128 + 128 ^ 1 * (y / 128) ∧ b.toNat % 128 < 128 ^ 1 ∧ l.drop (k0 + 1) = Lib.uvarint (y / 128) ++ rest ∧ (Lib.uvarint x).length = 1 + (Lib.uvarint (y / 128)).length) := ⟨by omega, by omega, h5, by omega⟩
        clear hl4 h1 h2 hx h5 hb
        go_wp2
        go_round
        case rel => exact ⟨1, y / 128, b.toNat % 128, by omega, rfl, by go_num, rfl, R⟩
        case measure => simp [intOf]
      · have hor := or1 b acc (by omega)
        have R : Hid (x = (acc + b.toNat % 128 * 128) + 128 ^ 2 * (y / 128) ∧ (acc + b.toNat % 128 * 128) < 128 ^ 2 ∧ l.drop (k0 + 2) = Lib.uvarint (y / 128) ++ rest ∧ (Lib.uvarint x).length = 2 + (Lib.uvarint (y / 128)).length) := ⟨by omega, by omega, h5, by omega⟩
        clear hl4 h1 h2 hx h5 hb
        go_wp2
        go_round
        case rel => exact ⟨2, y / 128, acc + b.toNat % 128 * 128, by omega, rfl, by go_num, rfl, R⟩
        case measure => simp [intOf]
      · omega
end Go.Proofs.Qxb6614906a
