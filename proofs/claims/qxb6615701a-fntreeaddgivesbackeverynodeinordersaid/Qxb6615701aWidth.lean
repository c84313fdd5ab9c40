/-
  The model's decoder steps as far as the law's own reckoning says.
-/
import Derived.Test.Qxb6615701aPlain
namespace Go.Proofs.Qxb6615701a.Plain
open Go Go.Lib

/-- The decoder's width, its tests as propositions. -/
def wid (a0 a1 a2 a3 : Nat) (p1 p2 p3 : Bool) : Nat :=
  if a0 < 128 then 1
  else if a0 / 32 = 6 ∧ p1 = true ∧ a1 / 64 = 2 then
    if 128 ≤ (a0 % 32) * 64 + a1 % 64 then 2 else 1
  else if a0 / 16 = 14 ∧ (p1 = true ∧ a1 / 64 = 2) ∧ (p2 = true ∧ a2 / 64 = 2) then
    if 2048 ≤ (a0 % 16) * 4096 + (a1 % 64) * 64 + a2 % 64 ∧ ((a0 % 16) * 4096 + (a1 % 64) * 64 + a2 % 64 < 55296 ∨ (57344 ≤ (a0 % 16) * 4096 + (a1 % 64) * 64 + a2 % 64 ∧ (a0 % 16) * 4096 + (a1 % 64) * 64 + a2 % 64 ≤ 1114111)) then 3 else 1
  else if a0 / 8 = 30 ∧ (p1 = true ∧ a1 / 64 = 2) ∧ (p2 = true ∧ a2 / 64 = 2) ∧ (p3 = true ∧ a3 / 64 = 2) then
    if 65536 ≤ (a0 % 8) * 262144 + (a1 % 64) * 4096 + (a2 % 64) * 64 + a3 % 64 ∧ ((a0 % 8) * 262144 + (a1 % 64) * 4096 + (a2 % 64) * 64 + a3 % 64 < 55296 ∨ (57344 ≤ (a0 % 8) * 262144 + (a1 % 64) * 4096 + (a2 % 64) * 64 + a3 % 64 ∧ (a0 % 8) * 262144 + (a1 % 64) * 4096 + (a2 % 64) * 64 + a3 % 64 ≤ 1114111)) then 4 else 1
  else 1

/-- The law's reckoning, its tests as propositions. -/
def vl (c a1 a2 a3 : Nat) (p1 p2 p3 : Bool) : Nat :=
  if c < 128 then 1
  else if 194 ≤ c ∧ c ≤ 223 then (if p1 = true ∧ 128 ≤ a1 ∧ a1 ≤ 191 then 2 else 1)
  else if c = 224 then (if (p1 = true ∧ 160 ≤ a1 ∧ a1 ≤ 191) ∧ (p2 = true ∧ 128 ≤ a2 ∧ a2 ≤ 191) then 3 else 1)
  else if c = 237 then (if (p1 = true ∧ 128 ≤ a1 ∧ a1 ≤ 159) ∧ (p2 = true ∧ 128 ≤ a2 ∧ a2 ≤ 191) then 3 else 1)
  else if 225 ≤ c ∧ c ≤ 239 then (if (p1 = true ∧ 128 ≤ a1 ∧ a1 ≤ 191) ∧ (p2 = true ∧ 128 ≤ a2 ∧ a2 ≤ 191) then 3 else 1)
  else if c = 240 then (if ((p1 = true ∧ 144 ≤ a1 ∧ a1 ≤ 191) ∧ (p2 = true ∧ 128 ≤ a2 ∧ a2 ≤ 191)) ∧ (p3 = true ∧ 128 ≤ a3 ∧ a3 ≤ 191) then 4 else 1)
  else if 241 ≤ c ∧ c ≤ 243 then (if ((p1 = true ∧ 128 ≤ a1 ∧ a1 ≤ 191) ∧ (p2 = true ∧ 128 ≤ a2 ∧ a2 ≤ 191)) ∧ (p3 = true ∧ 128 ≤ a3 ∧ a3 ≤ 191) then 4 else 1)
  else if c = 244 then (if ((p1 = true ∧ 128 ≤ a1 ∧ a1 ≤ 143) ∧ (p2 = true ∧ 128 ≤ a2 ∧ a2 ≤ 191)) ∧ (p3 = true ∧ 128 ≤ a3 ∧ a3 ≤ 191) then 4 else 1)
  else 1

theorem ite2 {p q : Prop} [Decidable p] [Decidable q] (a b : Nat) (h : p ↔ q) : (if p then a else b) = if q then a else b := by
  by_cases hp : p
  · rw [if_pos hp, if_pos (h.1 hp)]
  · rw [if_neg hp, if_neg (fun hq => hp (h.2 hq))]
theorem ite3 {p q r : Prop} [Decidable p] [Decidable q] [Decidable r] (a b : Nat) (h : (p ∧ q) ↔ r) : (if p then (if q then a else b) else b) = if r then a else b := by
  by_cases hp : p
  · rw [if_pos hp]; exact ite2 a b ⟨fun hq => h.1 ⟨hp, hq⟩, fun hr => (h.2 hr).2⟩
  · rw [if_neg hp, if_neg (fun hr => hp (h.2 hr).1)]
theorem cont_iff (a : Nat) (h : a < 256) : a / 64 = 2 ↔ 128 ≤ a ∧ a ≤ 191 := by omega

theorem wid_vl (a0 a1 a2 a3 : Nat) (h0 : a0 < 256) (h1 : a1 < 256) (h2 : a2 < 256) (h3 : a3 < 256) (p1 p2 p3 : Bool) : wid a0 a1 a2 a3 p1 p2 p3 = vl a0 a1 a2 a3 p1 p2 p3 := by
  unfold wid vl
  by_cases k1 : a0 < 128
  · rw [if_pos k1, if_pos k1]
  rw [if_neg k1, if_neg k1]
  by_cases k2 : a0 < 224
  · have e1 : ¬ (a0 / 16 = 14 ∧ (p1 = true ∧ a1 / 64 = 2) ∧ (p2 = true ∧ a2 / 64 = 2)) := by omega
    have e2 : ¬ (a0 / 8 = 30 ∧ (p1 = true ∧ a1 / 64 = 2) ∧ (p2 = true ∧ a2 / 64 = 2) ∧ (p3 = true ∧ a3 / 64 = 2)) := by omega
    rw [if_neg e1, if_neg e2]
    by_cases k3 : 194 ≤ a0 ∧ a0 ≤ 223
    · rw [if_pos k3]
      refine ite3 2 1 ⟨fun ⟨⟨_, hp, hc⟩, _⟩ => ⟨hp, by omega⟩, fun ⟨hp, hc⟩ => ⟨⟨by omega, hp, by omega⟩, by omega⟩⟩
    · rw [if_neg k3, if_neg (show ¬ a0 = 224 by omega), if_neg (show ¬ a0 = 237 by omega), if_neg (show ¬ (225 ≤ a0 ∧ a0 ≤ 239) by omega), if_neg (show ¬ a0 = 240 by omega), if_neg (show ¬ (241 ≤ a0 ∧ a0 ≤ 243) by omega), if_neg (show ¬ a0 = 244 by omega)]
      by_cases k4 : a0 / 32 = 6 ∧ p1 = true ∧ a1 / 64 = 2
      · rw [if_pos k4, if_neg (by omega)]
      · rw [if_neg k4]
  · have e0 : ¬ (a0 / 32 = 6 ∧ p1 = true ∧ a1 / 64 = 2) := by omega
    rw [if_neg e0, if_neg (show ¬ (194 ≤ a0 ∧ a0 ≤ 223) by omega)]
    by_cases k3 : a0 < 240
    · have e2 : ¬ (a0 / 8 = 30 ∧ (p1 = true ∧ a1 / 64 = 2) ∧ (p2 = true ∧ a2 / 64 = 2) ∧ (p3 = true ∧ a3 / 64 = 2)) := by omega
      rw [if_neg e2]
      by_cases q1 : a0 = 224
      · rw [if_pos q1]
        refine ite3 3 1 ⟨fun ⟨⟨_, ⟨hp, hc⟩, hp2, hc2⟩, hr⟩ => ⟨⟨hp, by omega⟩, hp2, by omega⟩, fun ⟨⟨hp, hc⟩, hp2, hc2⟩ => ⟨⟨by omega, ⟨hp, by omega⟩, hp2, by omega⟩, by omega⟩⟩
      · rw [if_neg q1]
        by_cases q2 : a0 = 237
        · rw [if_pos q2]
          refine ite3 3 1 ⟨fun ⟨⟨_, ⟨hp, hc⟩, hp2, hc2⟩, hr⟩ => ⟨⟨hp, by omega⟩, hp2, by omega⟩, fun ⟨⟨hp, hc⟩, hp2, hc2⟩ => ⟨⟨by omega, ⟨hp, by omega⟩, hp2, by omega⟩, by omega⟩⟩
        · rw [if_neg q2, if_pos (show 225 ≤ a0 ∧ a0 ≤ 239 by omega)]
          refine ite3 3 1 ⟨fun ⟨⟨_, ⟨hp, hc⟩, hp2, hc2⟩, hr⟩ => ⟨⟨hp, by omega⟩, hp2, by omega⟩, fun ⟨⟨hp, hc⟩, hp2, hc2⟩ => ⟨⟨by omega, ⟨hp, by omega⟩, hp2, by omega⟩, by omega⟩⟩
    · have e1 : ¬ (a0 / 16 = 14 ∧ (p1 = true ∧ a1 / 64 = 2) ∧ (p2 = true ∧ a2 / 64 = 2)) := by omega
      rw [if_neg e1, if_neg (show ¬ a0 = 224 by omega), if_neg (show ¬ a0 = 237 by omega), if_neg (show ¬ (225 ≤ a0 ∧ a0 ≤ 239) by omega)]
      by_cases q1 : a0 = 240
      · rw [if_pos q1]
        refine ite3 4 1 ⟨fun ⟨⟨_, ⟨hp, hc⟩, ⟨hp2, hc2⟩, hp3, hc3⟩, hr⟩ => ⟨⟨⟨hp, by omega⟩, hp2, by omega⟩, hp3, by omega⟩, fun ⟨⟨⟨hp, hc⟩, hp2, hc2⟩, hp3, hc3⟩ => ⟨⟨by omega, ⟨hp, by omega⟩, ⟨hp2, by omega⟩, hp3, by omega⟩, by omega⟩⟩
      · rw [if_neg q1]
        by_cases q2 : 241 ≤ a0 ∧ a0 ≤ 243
        · rw [if_pos q2]
          refine ite3 4 1 ⟨fun ⟨⟨_, ⟨hp, hc⟩, ⟨hp2, hc2⟩, hp3, hc3⟩, hr⟩ => ⟨⟨⟨hp, by omega⟩, hp2, by omega⟩, hp3, by omega⟩, fun ⟨⟨⟨hp, hc⟩, hp2, hc2⟩, hp3, hc3⟩ => ⟨⟨by omega, ⟨hp, by omega⟩, ⟨hp2, by omega⟩, hp3, by omega⟩, by omega⟩⟩
        · rw [if_neg q2]
          by_cases q3 : a0 = 244
          · rw [if_pos q3]
            refine ite3 4 1 ⟨fun ⟨⟨_, ⟨hp, hc⟩, ⟨hp2, hc2⟩, hp3, hc3⟩, hr⟩ => ⟨⟨⟨hp, by omega⟩, hp2, by omega⟩, hp3, by omega⟩, fun ⟨⟨⟨hp, hc⟩, hp2, hc2⟩, hp3, hc3⟩ => ⟨⟨by omega, ⟨hp, by omega⟩, ⟨hp2, by omega⟩, hp3, by omega⟩, by omega⟩⟩
          · rw [if_neg q3]
            by_cases k4 : a0 / 8 = 30 ∧ (p1 = true ∧ a1 / 64 = 2) ∧ (p2 = true ∧ a2 / 64 = 2) ∧ (p3 = true ∧ a3 / 64 = 2)
            · rw [if_pos k4, if_neg (by omega)]
            · rw [if_neg k4]

theorem dec_valid (n : Nat) : Utf8.valid (n : Int) = (decide (n < 55296) || (decide (57344 ≤ n) && decide (n ≤ 1114111))) := by
  unfold Utf8.valid
  rw [Bool.eq_iff_iff]
  simp only [Bool.or_eq_true, Bool.and_eq_true, decide_eq_true_eq]
  omega

theorem get_eq (s : ByteArray) (j : Nat) : s.get! j = s.data.toList.getD j 0 := by
  obtain ⟨a⟩ := s
  show a[j]! = _
  rw [Array.getElem!_eq_getD, List.getD_eq_getElem?_getD, Array.getElem?_toList, Array.getD_eq_getD_getElem?]
  rfl

theorem vlen_eq (l : List UInt8) (i : Nat) : vlen l i = vl (l.getD i 0).toNat (l.getD (i + 1) 0).toNat (l.getD (i + 2) 0).toNat (l.getD (i + 3) 0).toNat (decide (i + 1 < l.length)) (decide (i + 2 < l.length)) (decide (i + 3 < l.length)) := by
  unfold vlen vl inR
  simp only [Bool.and_eq_true, decide_eq_true_eq]

theorem decode_eq (s : ByteArray) (i : Nat) : (Utf8.decode s i).2 = wid (s.data.toList.getD i 0).toNat (s.data.toList.getD (i + 1) 0).toNat (s.data.toList.getD (i + 2) 0).toNat (s.data.toList.getD (i + 3) 0).toNat (decide (i + 1 < s.size)) (decide (i + 2 < s.size)) (decide (i + 3 < s.size)) := by
  unfold Utf8.decode wid
  simp only [get_eq, Nat.add_zero, Bool.and_eq_true, decide_eq_true_eq, beq_iff_eq, ge_iff_le, dec_valid, Bool.or_eq_true, and_assoc]
  repeat' split
  all_goals first | rfl | omega

theorem decode_vlen (s : ByteArray) (i : Nat) : (Utf8.decode s i).2 = vlen s.data.toList i := by
  have hl : s.size = s.data.toList.length := (Array.length_toList).symm
  rw [decode_eq, vlen_eq, hl, wid_vl _ _ _ _ (UInt8.toNat_lt _) (UInt8.toNat_lt _) (UInt8.toNat_lt _) (UInt8.toNat_lt _)]

theorem runeCount_rcF (s : ByteArray) : ∀ (f i : Nat), runeCountFrom s f i = rcF s.data.toList f i
  | 0, _ => rfl
  | f + 1, i => by
    have hl : s.size = s.data.toList.length := (Array.length_toList).symm
    simp only [runeCountFrom, rcF, decode_vlen, runeCount_rcF s f, hl]

/-- The library's count is the law's. -/
theorem runeCount_rc (s : ByteArray) : runeCount s = rc s.data.toList 0 := by
  have hl : s.size = s.data.toList.length := (Array.length_toList).symm
  unfold runeCount rc
  rw [runeCount_rcF, hl]
end Go.Proofs.Qxb6615701a.Plain
