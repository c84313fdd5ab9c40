/-
  The plain laws behind this seat's statements: varints tell lengths apart. No Go in sight.
-/
import Derived.Lib.Varint
namespace Go.Proofs.Qxb6614906a.Plain
open Go Go.Lib

theorem toU8_inj {a b : Nat} (ha : a < 256) (hb : b < 256) (h : a.toUInt8 = b.toUInt8) : a = b := by
  have := congrArg UInt8.toNat h
  simp only [Nat.toUInt8, UInt8.toNat_ofNat'] at this
  omega

theorem uv_inj : ∀ (n a b : Nat) (r1 r2 : List UInt8), a ≤ n → uvarint a ++ r1 = uvarint b ++ r2 → a = b ∧ r1 = r2
  | n, a, b, r1, r2, hn, h => by
    by_cases ha : a < 128
    · by_cases hb : b < 128
      · rw [uvarint_small ha, uvarint_small hb] at h
        injection h with h1 h2
        exact ⟨toU8_inj (by omega) (by omega) h1, h2⟩
      · rw [uvarint_small ha, uvarint_big (by omega)] at h
        injection h with h1 h2
        have := toU8_inj (by omega) (by omega) h1
        omega
    · by_cases hb : b < 128
      · rw [uvarint_big (by omega), uvarint_small hb] at h
        injection h with h1 h2
        have := toU8_inj (by omega) (by omega) h1
        omega
      · rw [uvarint_big (x := a) (by omega), uvarint_big (x := b) (by omega)] at h
        injection h with h1 h2
        have e1 := toU8_inj (by omega) (by omega) h1
        match n, hn with
        | 0, hn => omega
        | n + 1, hn =>
          have := uv_inj n (a / 128) (b / 128) r1 r2 (by omega) h2
          exact ⟨by omega, this.2⟩

/-- One frame: the length's varint, then the bytes. -/
def frame (s : List UInt8) : List UInt8 := uvarint s.length ++ s

theorem frame_inj {s u r1 r2 : List UInt8} (h : frame s ++ r1 = frame u ++ r2) : s = u ∧ r1 = r2 := by
  unfold frame at h
  rw [List.append_assoc, List.append_assoc] at h
  obtain ⟨h1, h2⟩ := uv_inj _ _ _ _ _ (Nat.le_refl _) h
  exact List.append_inj h2 h1

/-- Two frames tell pairs apart. -/
theorem two_frames (p s t u w : List UInt8) : p ++ frame s ++ frame t = p ++ frame u ++ frame w ↔ s = u ∧ t = w := by
  constructor
  · intro h
    rw [List.append_assoc, List.append_assoc] at h
    obtain ⟨h1, h2⟩ := frame_inj (List.append_cancel_left h)
    have h3 : frame t ++ [] = frame w ++ [] := by rw [h2]
    exact ⟨h1, (frame_inj h3).1⟩
  · rintro ⟨rfl, rfl⟩; rfl

/-- The number of groups of seven bits. -/
theorem uv_len_step {x : Nat} (h : 128 ≤ x) : (uvarint x).length = 1 + (uvarint (x / 128)).length := by
  rw [uvarint_big h, List.length_cons, Nat.add_comm]
theorem uv_len_small {x : Nat} (h : x < 128) : (uvarint x).length = 1 := by
  rw [uvarint_small h]; rfl
theorem uv_len_le3 {x : Nat} (h : x ≤ 262144) : (uvarint x).length ≤ 3 := uvarint_length 2 x (Nat.lt_of_le_of_lt h (by decide))

end Go.Proofs.Qxb6614906a.Plain
