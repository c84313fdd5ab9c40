/-
  internal/strconv.ParseUint and strconv.ParseUint at base 10, bit size 63 (the shelf has 64, 32, 16, 8): turned from the shelf texts for 32 and 64 bits.
-/
import Derived.Shelf.Pu.Lays
import Derived.Shelf.Pu.Lower
import Derived.Shelf.Pu.ParseUintEmpty
import Derived.Shelf.Pu.ToError
import Derived.Shelf.Pu.ToErrorRange
import Derived.Lib.AtoiErrMem
import Derived.Lib.Strings
import Derived.Lib.Walk
import Derived.Lib.ConvBytes
import Derived.Lib.ParseIntBMem
import Derived.Lib.Hide
import Derived.Laws.Strings3
import Derived.Laws.Closers25
import Derived.Laws.Closers25b
import Derived.WalkKit
import Derived.BigCall
import Derived.BigGuard
namespace Go.Proofs.Qxb6614506aDoor
open Go.Shelf Go.RowKit
variable {P : Program} {ρ : Ren}

/-- What the parser answers at a text that is no row of digits. -/
def bad : Lib.NumEnd Nat := Lib.parseUintB 63 []
theorem bad_ne (u : Nat) : bad ≠ .ok u := by
  intro h
  unfold bad Lib.parseUintB at h
  rw [if_pos rfl] at h
  cases h

set_option maxHeartbeats 32000000 in
set_option maxRecDepth 100000 in
/-- internal/strconv.ParseUint(s, 10, 63), s NOT EMPTY: 'Lib.parseUintM 9223372036854775807 0' OF ITS BYTES: the number; or (0, ErrSyntax); or (the greatest 63-bit number, ErrRange). The world behind the call: the one new row that '[]byte(s)' lays. -/
theorem internal_ParseUint_10_b63 (L : LaysPu.n16 P ρ) (t : ByteArray) (hne : t.size ≠ 0) (hmax : t.size ≤ 9223372036854775806) (w : World) :
    Calls P (ρ.f 16) #[.string t, .int .i64 10, .int .i64 63] w fun e w' => e = .returned (Lib.uintTupleM (ρ.t 34) 9223372036854775807 (Lib.parseUintM 9223372036854775807 0 t.data.toList)) ∧ w' = Lib.bytesWorld w (ρ.t 5) t := by
  have mixed := L.mixed
  have t9 := L.t9; have a9 := L.a9; have z9 := L.z9; have v9 := L.v9
  have t3 := L.t3; have a3 := L.a3; have z3 := L.z3; have v3 := L.v3
  have t22 := L.t22; have a22 := L.a22; have z22 := L.z22; have v22 := L.v22
  have t24 := L.t24; have a24 := L.a24; have z24 := L.z24; have v24 := L.v24
  have t4 := L.t4; have a4 := L.a4; have z4 := L.z4; have v4 := L.v4
  have t34 := L.t34; have a34 := L.a34; have z34 := L.z34; have v34 := L.v34
  have t5 := L.t5; have a5 := L.a5; have z5 := L.z5; have v5 := L.v5
  have t36 := L.t36; have a36 := L.a36; have z36 := L.z36; have v36 := L.v36
  have t37 := L.t37; have a37 := L.a37; have z37 := L.z37; have v37 := L.v37
  have t0 := L.t0; have a0 := L.a0; have z0 := L.z0; have v0 := L.v0
  have e19 : ∀ args w, (callFunc (ρ.f 19) args).run P w = .ok (.enter (ρ.f 19) args) w := enters_of L.f19 (by kernel_rfl) rfl
  have hemp : t.toList.isEmpty = false := by
    rw [← decide_eq_emptyBytes]
    exact decide_eq_false (fun h => hne (by rw [h]; rfl))
  have hcv := Lib.run_convert_string_bytes (P := P) w (ρ.t 9) (ρ.t 37) (ρ.t 5) t (u := .string) L.t9 L.t37 L.t5
  have hB : ∀ j, j < t.size → (Lib.bytesWorld w (ρ.t 5) t).cell? ⟨w.heap.size, j, none⟩ = some (.int .u8 (t.data.toList.getD j 0).toNat) := fun j hj => Lib.bytesWorld_cell w (ρ.t 5) t j hj
  obtain ⟨W1, hW1⟩ : ∃ W1, W1 = Lib.bytesWorld w (ρ.t 5) t := ⟨_, rfl⟩
  rw [← hW1] at hcv hB ⊢
  clear hW1
  obtain ⟨bs, hL⟩ : ∃ bs, bs = t.data.toList := ⟨_, rfl⟩
  have hLn : bs.length = t.size := by rw [hL, Lib.size_eq]
  rw [← hL] at hB ⊢
  clear hL
  -- 'maxVal := uint64(1)<<uint(bitSize) - 1': its value, for the walk to take
  have hmv : IntKind.u64.wrap (IntKind.u64.wrap 9223372036854775808 - 1) = 9223372036854775807 := by
    rw [IntKind.wrap_u64, IntKind.wrap_u64]
    decide
  go_enter L.f16, BodyPu.n16_ntmps ρ
  go_wp2
  go_loop [12, 13, 101] (fun vu vn vi => ∃ (k acc : Nat) (a : Int), vu = .bool false ∧ vn = .int .u64 a ∧ vi = .int .i64 k ∧ k ≤ t.size ∧ Hid (a = (acc : Int) ∧ acc ≤ 9223372036854775807 ∧ Lib.parseUintM 9223372036854775807 0 bs = Lib.parseUintM 9223372036854775807 acc (bs.drop k)))
    (fun _ _ vi => t.size - (intOf vi).toNat)
  case atStart => exact ⟨0, 0, 0, rfl, rfl, rfl, by omega, rfl, by omega, rfl⟩
  case round =>
    obtain ⟨k, acc, a, rfl, rfl, rfl, hk, hh⟩ := hrel
    obtain ⟨ha, hacc, hdec⟩ := hh.out
    clear hh
    have a0 : 0 ≤ a := by omega
    have a1 : a ≤ 9223372036854775807 := by omega
    by_cases hkn : k < t.size
    · have hc := hB k hkn
      have hdrop : bs.drop k = bs[k]'(by omega) :: bs.drop (k + 1) := List.drop_eq_getElem_cons (by omega)
      have hget : bs.getD k 0 = bs[k]'(by omega) := by simp [List.getD, List.getElem?_eq_getElem (show k < bs.length by omega)]
      rw [hdrop] at hdec
      rw [hget] at hc
      generalize bs[k]'(by omega) = c at hc hdec
      have hc256 : c.toNat < 256 := c.toNat_lt
      clear hB hdrop hget
      by_cases hdig : 48 ≤ c.toNat ∧ c.toNat ≤ 57
      · obtain ⟨hd0, hd1⟩ := hdig
        by_cases hcut : 1844674407370955162 ≤ acc
        · -- acc * 10 OVERFLOWS
          have hF : Lib.parseUintM 9223372036854775807 acc (c :: bs.drop (k + 1)) = .range := by simp [Lib.parseUintM, hd0, hd1, hcut]
          rw [hF] at hdec
          have icut : 1844674407370955162 ≤ a := by omega
          clear hcut hacc hF ha
          go_wp2
          go_ret2
          exact ⟨rfl, rfl⟩
        · by_cases hov2 : 18446744073709551616 ≤ acc * 10 + (c.toNat - 48)
          · -- .. + d OVERFLOWS
            have hov : 9223372036854775807 < acc * 10 + (c.toNat - 48) := by omega
            have hF : Lib.parseUintM 9223372036854775807 acc (c :: bs.drop (k + 1)) = .range := by simp [Lib.parseUintM, hd0, hd1, hcut, hov]
            rw [hF] at hdec
            have icut : a < 1844674407370955162 := by omega
            have iov : 18446744073709551616 ≤ a * 10 + ((c.toNat : Int) - 48) := by omega
            have hwr : IntKind.u64.wrap (a * 10 + ((c.toNat : Int) - 48)) = a * 10 + ((c.toNat : Int) - 48) - 18446744073709551616 := by
              rw [IntKind.wrap_u64]
              omega
            clear hcut hacc hF hov hov2 ha
            go_wp2
            go_ret2
            exact ⟨rfl, rfl⟩
          · by_cases hov : 9223372036854775807 < acc * 10 + (c.toNat - 48)
            · -- OVER THE SIZE
              have hF : Lib.parseUintM 9223372036854775807 acc (c :: bs.drop (k + 1)) = .range := by simp [Lib.parseUintM, hd0, hd1, hcut, hov]
              rw [hF] at hdec
              have icut : a < 1844674407370955162 := by omega
              have iov2 : a * 10 + ((c.toNat : Int) - 48) < 18446744073709551616 := by omega
              have iov : 9223372036854775807 < a * 10 + ((c.toNat : Int) - 48) := by omega
              clear hcut hacc hF hov hov2 ha
              go_wp2
              go_ret2
              exact ⟨rfl, rfl⟩
            · have hF : Lib.parseUintM 9223372036854775807 acc (c :: bs.drop (k + 1)) = Lib.parseUintM 9223372036854775807 (acc * 10 + (c.toNat - 48)) (bs.drop (k + 1)) := by simp [Lib.parseUintM, hd0, hd1, hcut, hov]
              have HN : Hid (a * 10 + ((c.toNat : Int) - 48) = ((acc * 10 + (c.toNat - 48) : Nat) : Int) ∧ acc * 10 + (c.toNat - 48) ≤ 9223372036854775807 ∧ Lib.parseUintM 9223372036854775807 0 bs = Lib.parseUintM 9223372036854775807 (acc * 10 + (c.toNat - 48)) (bs.drop (k + 1))) := Lib.hid ⟨by omega, by omega, hdec.trans hF⟩
              have icut : a < 1844674407370955162 := by omega
              have iov2 : a * 10 + ((c.toNat : Int) - 48) < 18446744073709551616 := by omega
              have iov : a * 10 + ((c.toNat : Int) - 48) ≤ 9223372036854775807 := by omega
              clear hcut hacc hF hov hov2 hdec ha
              go_wp2
              refine ⟨⟨k + 1, acc * 10 + (c.toNat - 48), a * 10 + ((c.toNat : Int) - 48), rfl, (by first | rfl | (congr 1; omega)), (by first | rfl | (congr 1; omega)), by omega, HN⟩, by simp [intOf]; omega⟩
      · -- NO DIGIT: whatever way the text goes: (0, ErrSyntax)
        have hF : Lib.parseUintM 9223372036854775807 acc (c :: bs.drop (k + 1)) = bad := by simp [Lib.parseUintM, hdig, bad, Lib.parseUintB]
        rw [hF] at hdec
        clear hacc hF ha
        have hv0 := bits_lo_u8 .or (c.toNat : Int) 32
        have hv1 := bits_hi_u8 .or (c.toNat : Int) 32
        have hu0 := bits_lo_u8 .or 95 32       -- at '_' the walk writes the byte out
        have hu1 := bits_hi_u8 .or 95 32
        go_wp2_with (go_at_fn (ρ.f 19); refine (AnyPu.internal_strconv_lower { L with } _ _).mono ?_; rintro e w' ⟨rfl, rfl⟩)
        all_goals go_ret2
        all_goals first | exact ⟨rfl, rfl⟩ | exact ⟨by rw [hdec]; rfl, rfl⟩
    · -- THE BYTES ARE AT AN END
      have hkk : k = t.size := by omega
      subst hkk
      have hF : Lib.parseUintM 9223372036854775807 acc (bs.drop t.size) = .ok acc := by rw [List.drop_eq_nil_of_le (by omega)]; rfl
      rw [hF] at hdec
      subst ha
      clear hacc hF a0 a1
      go_wp2
      go_ret2
      exact ⟨rfl, rfl⟩


end Go.Proofs.Qxb6614506aDoor
