/-
  Plain facts behind the YAML laws: line breaks; how many characters a row of bytes holds. No Go text in sight (but for the model's own decoder).
-/
import Derived.Lib.RuneCount
namespace Go.Proofs.Qxb6615701a.Plain
open Go Go.Lib

/-- A line feed or a carriage return stands among the bytes. -/
def brk (c : UInt8) : Bool := decide (c.toNat = 10) || decide (c.toNat = 13)
def hasBr (l : List UInt8) : Bool := l.any brk

/-- The byte at j lies between lo and hi. -/
def inR (l : List UInt8) (j lo hi : Nat) : Bool := decide (j < l.length) && (decide (lo ≤ (l.getD j 0).toNat) && decide ((l.getD j 0).toNat ≤ hi))

/-- The length of the well-formed sequence at i, or 1: as the law's own text reckons it. -/
def vlen (l : List UInt8) (i : Nat) : Nat :=
  let c := (l.getD i 0).toNat
  if c < 128 then 1
  else if 194 ≤ c ∧ c ≤ 223 then (if inR l (i + 1) 128 191 then 2 else 1)
  else if c = 224 then (if inR l (i + 1) 160 191 && inR l (i + 2) 128 191 then 3 else 1)
  else if c = 237 then (if inR l (i + 1) 128 159 && inR l (i + 2) 128 191 then 3 else 1)
  else if 225 ≤ c ∧ c ≤ 239 then (if inR l (i + 1) 128 191 && inR l (i + 2) 128 191 then 3 else 1)
  else if c = 240 then (if inR l (i + 1) 144 191 && inR l (i + 2) 128 191 && inR l (i + 3) 128 191 then 4 else 1)
  else if 241 ≤ c ∧ c ≤ 243 then (if inR l (i + 1) 128 191 && inR l (i + 2) 128 191 && inR l (i + 3) 128 191 then 4 else 1)
  else if c = 244 then (if inR l (i + 1) 128 143 && inR l (i + 2) 128 191 && inR l (i + 3) 128 191 then 4 else 1)
  else 1

theorem vlen_le (l : List UInt8) (i : Nat) : 1 ≤ vlen l i ∧ vlen l i ≤ 4 := by
  unfold vlen
  dsimp only
  repeat' split
  all_goals omega

/-- How many characters from place i on, by at most 'fuel' of them. -/
def rcF (l : List UInt8) : Nat → Nat → Nat
  | 0, _ => 0
  | fuel + 1, i => if i < l.length then 1 + rcF l fuel (i + vlen l i) else 0

theorem rcF_end (l : List UInt8) (fuel i : Nat) (h : ¬ i < l.length) : rcF l fuel i = 0 := by
  cases fuel <;> simp [rcF, h]

theorem rcF_fuel (l : List UInt8) : ∀ (f g i : Nat), l.length - i ≤ f → l.length - i ≤ g → rcF l f i = rcF l g i
  | 0, g, i, h, _ => by rw [rcF_end l g i (by omega)]; rfl
  | f + 1, 0, i, _, h => by rw [rcF_end l _ i (by omega)]; rfl
  | f + 1, g + 1, i, h1, h2 => by
    by_cases hi : i < l.length
    · have := (vlen_le l i).1
      simp only [rcF, if_pos hi]
      rw [rcF_fuel l f g (i + vlen l i) (by omega) (by omega)]
    · simp only [rcF, if_neg hi]

/-- How many characters from place i on. -/
def rc (l : List UInt8) (i : Nat) : Nat := rcF l l.length i

theorem rc_step (l : List UInt8) (i : Nat) (h : i < l.length) : rc l i = 1 + rc l (i + vlen l i) := by
  have hv := (vlen_le l i).1
  have e : rc l i = rcF l (l.length + 1) i := rcF_fuel l _ _ i (by omega) (by omega)
  rw [e]
  simp only [rcF, if_pos h]
  rfl
theorem rc_end (l : List UInt8) (i : Nat) (h : ¬ i < l.length) : rc l i = 0 := rcF_end l _ i h

theorem rc_le (l : List UInt8) : ∀ (n i : Nat), l.length - i ≤ n → rc l i ≤ l.length - i ∧ l.length - i ≤ 4 * rc l i
  | 0, i, h => by rw [rc_end l i (by omega)]; omega
  | n + 1, i, h => by
    by_cases hi : i < l.length
    · have hv := vlen_le l i
      have ih := rc_le l n (i + vlen l i) (by omega)
      rw [rc_step l i hi]
      omega
    · rw [rc_end l i hi]; omega

theorem rc_bounds (l : List UInt8) : rc l 0 ≤ l.length ∧ l.length ≤ 4 * rc l 0 := by
  have := rc_le l l.length 0 (by omega)
  omega

theorem getD_drop (l : List UInt8) (k j : Nat) : (l.drop k).getD j 0 = l.getD (k + j) 0 := by
  simp [List.getD, List.getElem?_drop]

theorem inR_drop (l : List UInt8) (k j lo hi : Nat) : inR (l.drop k) j lo hi = inR l (k + j) lo hi := by
  unfold inR
  rw [getD_drop, List.length_drop]
  congr 1
  rw [Bool.eq_iff_iff, decide_eq_true_iff, decide_eq_true_iff]
  omega

theorem vlen_drop (l : List UInt8) (k i : Nat) : vlen (l.drop k) i = vlen l (k + i) := by
  unfold vlen
  simp only [getD_drop, inR_drop, ← Nat.add_assoc]

theorem rcF_drop (l : List UInt8) (k : Nat) : ∀ (f i : Nat), rcF (l.drop k) f i = rcF l f (k + i)
  | 0, _ => rfl
  | f + 1, i => by
    simp only [rcF, vlen_drop, rcF_drop l k f, List.length_drop]
    by_cases h : i < l.length - k
    · rw [if_pos h, if_pos (by omega), ← Nat.add_assoc]
    · rw [if_neg h, if_neg (by omega)]

theorem rc_drop (l : List UInt8) (k : Nat) : rc (l.drop k) 0 = rc l k := by
  unfold rc
  rw [rcF_drop, Nat.add_zero]
  exact rcF_fuel l _ _ k (by rw [List.length_drop]; omega) (by omega)

theorem rc_ascii (l : List UInt8) (k : Nat) (h : k < l.length) (hc : (l.getD k 0).toNat < 128) : rc l k = 1 + rc l (k + 1) := by
  rw [rc_step l k h]
  have : vlen l k = 1 := by unfold vlen; dsimp only; rw [if_pos hc]
  rw [this]
end Go.Proofs.Qxb6615701a.Plain
