/-
  The plain laws behind the two cards of this seat: no Go in sight. What ParseSeq answers at a list of bytes ('parseL'), and the numerals' mathematics.
-/
import Derived.Lib.ParseIntB
namespace Go.Proofs.Qxb6614506aDoor.Plain
open Go

/-- The byte is an ASCII digit. -/
def digB (c : UInt8) : Bool := decide (48 ≤ c.toNat) && decide (c.toNat ≤ 57)
def allDig (l : List UInt8) : Bool := l.all digB
def allZer (l : List UInt8) : Bool := l.all (fun c => decide (c.toNat = 48))
def dg (a : Nat) (c : UInt8) : Nat := a * 10 + (c.toNat - 48)
/-- The number that the digits spell, behind 'acc'. -/
def valF (acc : Nat) (l : List UInt8) : Nat := l.foldl dg acc
/-- The greatest number: 2^63 - 1. -/
def mx : Nat := 9223372036854775807
theorem mx_def : mx = 9223372036854775807 := by unfold mx; rfl
theorem valF_cons (a : Nat) (c : UInt8) (r : List UInt8) : valF a (c :: r) = valF (a * 10 + (c.toNat - 48)) r := by unfold valF; rw [List.foldl_cons]; unfold dg; rfl
theorem valF_nil (a : Nat) : valF a [] = a := by unfold valF; rw [List.foldl_nil]

theorem valF_ge : ∀ (l : List UInt8) (a : Nat), a ≤ valF a l
  | [], a => by rw [valF_nil]; exact Nat.le_refl a
  | c :: r, a => by
    have := valF_ge r (a * 10 + (c.toNat - 48))
    rw [valF_cons]
    omega

theorem valF_app (l r : List UInt8) (a : Nat) : valF a (l ++ r) = valF (valF a l) r := by
  induction l generalizing a with
  | nil => rw [List.nil_append, valF_nil]
  | cons c l ih => rw [List.cons_append, valF_cons, valF_cons, ih]

theorem valF_snoc (l : List UInt8) (c : UInt8) (a : Nat) : valF a (l ++ [c]) = valF a l * 10 + (c.toNat - 48) := by
  rw [valF_app, valF_cons, valF_nil]

theorem digB_iff (c : UInt8) : digB c = true ↔ 48 ≤ c.toNat ∧ c.toNat ≤ 57 := by simp [digB]

theorem parseM_dig : ∀ (l : List UInt8) (a : Nat), allDig l = true → a ≤ mx → Lib.parseUintM mx a l = if valF a l ≤ mx then .ok (valF a l) else .range
  | [], a, _, h => by simp [Lib.parseUintM, valF_nil, h]
  | c :: r, a, hd, h => by
    have hc : 48 ≤ c.toNat ∧ c.toNat ≤ 57 := (digB_iff c).1 (by simp [allDig] at hd; exact hd.1)
    have hr : allDig r = true := by simp [allDig] at hd ⊢; exact hd.2
    have hge := valF_ge r (a * 10 + (c.toNat - 48))
    have hm := mx_def
    rw [valF_cons]
    simp only [Lib.parseUintM, if_pos hc]
    by_cases h1 : 1844674407370955162 ≤ a
    · rw [if_pos h1, if_neg (by omega)]
    · rw [if_neg h1]
      by_cases h2 : mx < a * 10 + (c.toNat - 48)
      · rw [if_pos h2, if_neg (by omega)]
      · rw [if_neg h2]
        exact parseM_dig r _ hr (by omega)

theorem parseM_ok_dig : ∀ (l : List UInt8) (a u : Nat), Lib.parseUintM mx a l = .ok u → allDig l = true
  | [], _, _, _ => rfl
  | c :: r, a, u, h => by
    simp only [Lib.parseUintM] at h
    by_cases hc : 48 ≤ c.toNat ∧ c.toNat ≤ 57
    · rw [if_pos hc] at h
      by_cases h1 : 1844674407370955162 ≤ a
      · rw [if_pos h1] at h; cases h
      · rw [if_neg h1] at h
        by_cases h2 : mx < a * 10 + (c.toNat - 48)
        · rw [if_pos h2] at h; cases h
        · rw [if_neg h2] at h
          have := parseM_ok_dig r _ u h
          simp only [allDig, List.all_cons, Bool.and_eq_true] at this ⊢
          exact ⟨(digB_iff c).2 hc, this⟩
    · rw [if_neg hc] at h; cases h

/-- WHAT ParseSeq ANSWERS: a number, or none (an error). -/
def parseL (l : List UInt8) : Option Nat :=
  if allDig l = true ∧ 0 < valF 0 l ∧ valF 0 l ≤ mx then some (valF 0 l) else none

theorem two63 : (2 : Nat) ^ 63 - 1 = mx := by decide

theorem parseB_ok {l : List UInt8} {u : Nat} (h : Lib.parseUintB 63 l = .ok u) : allDig l = true ∧ valF 0 l = u ∧ u ≤ mx := by
  unfold Lib.parseUintB at h
  by_cases hl : l = []
  · rw [if_pos hl] at h; cases h
  · rw [if_neg hl, two63] at h
    have hd := parseM_ok_dig l 0 u h
    rw [parseM_dig l 0 hd (Nat.zero_le _)] at h
    by_cases hv : valF 0 l ≤ mx
    · rw [if_pos hv] at h
      cases h
      exact ⟨hd, rfl, hv⟩
    · rw [if_neg hv] at h; cases h

theorem parseL_ok {l : List UInt8} {u : Nat} (h : Lib.parseUintB 63 l = .ok u) (hu : u ≠ 0) : parseL l = some u := by
  obtain ⟨hd, hv, hm⟩ := parseB_ok h
  unfold parseL
  rw [hv, if_pos ⟨hd, by omega, hm⟩]

theorem parseL_zero {l : List UInt8} (h : Lib.parseUintB 63 l = .ok 0) : parseL l = none := by
  obtain ⟨hd, hv, hm⟩ := parseB_ok h
  unfold parseL
  rw [hv, if_neg (by omega)]

theorem parseL_bad {l : List UInt8} (h : ∀ u, Lib.parseUintB 63 l ≠ .ok u) : parseL l = none := by
  unfold parseL
  refine if_neg fun ⟨hd, h0, hm⟩ => ?_
  have hl : l ≠ [] := fun e => by subst e; simp [valF_nil] at h0
  refine h (valF 0 l) ?_
  unfold Lib.parseUintB
  rw [if_neg hl, two63, parseM_dig l 0 hd (Nat.zero_le _), if_pos hm]

theorem parseL_le {l : List UInt8} {u : Nat} (h : parseL l = some u) : 0 < u ∧ u ≤ mx ∧ allDig l = true ∧ valF 0 l = u := by
  unfold parseL at h
  split at h
  · rename_i hh; cases h; exact ⟨hh.2.1, hh.2.2, hh.1, rfl⟩
  · cases h

theorem allZer_val : ∀ (l : List UInt8) (a : Nat), allDig l = true → (allZer l = true ∧ a = 0 ↔ valF a l = 0)
  | [], a, _ => by simp [allZer, valF_nil]
  | c :: r, a, hd => by
    have hc : 48 ≤ c.toNat ∧ c.toNat ≤ 57 := (digB_iff c).1 (by simp [allDig] at hd; exact hd.1)
    have hr : allDig r = true := by simp [allDig] at hd ⊢; exact hd.2
    have ih := allZer_val r (a * 10 + (c.toNat - 48)) hr
    rw [valF_cons, ← ih]
    simp only [allZer, List.all_cons, Bool.and_eq_true, decide_eq_true_eq]
    constructor
    · rintro ⟨⟨h1, h2⟩, h3⟩; exact ⟨h2, by omega⟩
    · rintro ⟨h1, h2⟩; exact ⟨⟨by omega, h1⟩, by omega⟩

theorem allZer_iff (l : List UInt8) (hd : allDig l = true) : allZer l = true ↔ valF 0 l = 0 := by
  have := allZer_val l 0 hd
  simpa using this

theorem allDig_snoc (l : List UInt8) (c : UInt8) : allDig (l ++ [c]) = (allDig l && digB c) := by
  simp [allDig, List.all_append]

/-! ### The first law -/
theorem l1_ok {l : List UInt8} {n : Nat} (h : parseL l = some n) : allDig l = true ∧ allZer l = false ∧ 0 < n ∧ n ≤ mx := by
  obtain ⟨h0, h1, h2, h3⟩ := parseL_le h
  refine ⟨h2, ?_, h0, h1⟩
  cases hz : allZer l
  · rfl
  · have := (allZer_iff l h2).1 hz; omega

theorem l1_bad (l : List UInt8) (c : UInt8) (h : digB c = false ∨ allDig l = false) : parseL (l ++ [c]) = none := by
  unfold parseL
  refine if_neg fun ⟨hd, _⟩ => ?_
  rw [allDig_snoc] at hd
  rcases h with h | h <;> simp [h] at hd

theorem l1_zeros (l : List UInt8) (c : UInt8) (hd : allDig l = true) (hc : digB c = true) (hz : allZer l = true) :
    parseL (l ++ [c]) = if c.toNat - 48 = 0 then none else some (c.toNat - 48) := by
  have h0 := (allZer_iff l hd).1 hz
  have hc' := (digB_iff c).1 hc
  have hm := mx_def
  unfold parseL
  rw [allDig_snoc, valF_snoc, h0, hd, hc]
  by_cases h : c.toNat - 48 = 0
  · rw [if_pos h, if_neg (by omega)]
  · rw [if_neg h, if_pos ⟨rfl, by omega, by omega⟩, Nat.zero_mul, Nat.zero_add]

theorem l1_more (l : List UInt8) (c : UInt8) (hd : allDig l = true) (hz : allZer l = false) (hn : parseL l = none) :
    parseL (l ++ [c]) = none := by
  have h0 : valF 0 l ≠ 0 := fun e => by rw [(allZer_iff l hd).2 e] at hz; cases hz
  have hbig : ¬ valF 0 l ≤ mx := by
    intro hle
    unfold parseL at hn
    rw [if_pos ⟨hd, by omega, hle⟩] at hn
    cases hn
  unfold parseL
  rw [valF_snoc]
  exact if_neg (by omega)

theorem l1_step (l : List UInt8) (c : UInt8) (n : Nat) (hc : digB c = true) (hn : parseL l = some n) :
    parseL (l ++ [c]) = if n * 10 + (c.toNat - 48) ≤ mx then some (n * 10 + (c.toNat - 48)) else none := by
  obtain ⟨h0, h1, h2, h3⟩ := parseL_le hn
  unfold parseL
  rw [valF_snoc, allDig_snoc, h2, hc, h3]
  by_cases h : n * 10 + (c.toNat - 48) ≤ mx
  · rw [if_pos h, if_pos ⟨rfl, by omega, h⟩]
  · rw [if_neg h, if_neg (by omega)]

/-! ### The second law -/
def trimZ : List UInt8 → List UInt8
  | [] => []
  | c :: r => if c.toNat = 48 then trimZ r else c :: r

def cmpS : List UInt8 → List UInt8 → Int
  | x :: xs, y :: ys => if x.toNat < y.toNat then -1 else if y.toNat < x.toNat then 1 else cmpS xs ys
  | _, _ => 0
def cmpN (x y : List UInt8) : Int := if x.length < y.length then -1 else if y.length < x.length then 1 else cmpS x y
def cmpU (x y : Nat) : Int := if x < y then -1 else if y < x then 1 else 0

theorem trimZ_val : ∀ l : List UInt8, valF 0 (trimZ l) = valF 0 l
  | [] => rfl
  | c :: r => by
    by_cases h : c.toNat = 48
    · rw [trimZ, if_pos h, trimZ_val r, valF_cons, h]
    · rw [trimZ, if_neg h]

theorem trimZ_dig : ∀ l : List UInt8, allDig l = true → allDig (trimZ l) = true
  | [], h => h
  | c :: r, h => by
    by_cases hc : c.toNat = 48
    · rw [trimZ, if_pos hc]; exact trimZ_dig r (by simp [allDig] at h ⊢; exact h.2)
    · rw [trimZ, if_neg hc]; exact h

theorem valF_split : ∀ (l : List UInt8) (a : Nat), valF a l = a * 10 ^ l.length + valF 0 l
  | [], a => by simp [valF_nil]
  | c :: r, a => by
    rw [valF_cons, valF_split r, valF_cons, valF_split r (0 * 10 + (c.toNat - 48)), List.length_cons, Nat.pow_succ]
    rw [Nat.add_mul, Nat.zero_mul, Nat.zero_add, Nat.mul_comm (10 ^ r.length) 10, Nat.mul_assoc, Nat.add_assoc]

theorem valF_lt : ∀ l : List UInt8, allDig l = true → valF 0 l < 10 ^ l.length
  | [], _ => by simp [valF_nil]
  | c :: r, hd => by
    have hc : 48 ≤ c.toNat ∧ c.toNat ≤ 57 := (digB_iff c).1 (by simp [allDig] at hd; exact hd.1)
    have hr : allDig r = true := by simp [allDig] at hd ⊢; exact hd.2
    have ih := valF_lt r hr
    rw [valF_cons, valF_split, List.length_cons, Nat.pow_succ]
    have : (0 * 10 + (c.toNat - 48)) * 10 ^ r.length ≤ 9 * 10 ^ r.length := Nat.mul_le_mul_right _ (by omega)
    omega

theorem trimZ_head {l r : List UInt8} {c : UInt8} (h : trimZ l = c :: r) : c.toNat ≠ 48 := by
  induction l with
  | nil => cases h
  | cons d l ih =>
    by_cases hd : d.toNat = 48
    · rw [trimZ, if_pos hd] at h; exact ih h
    · rw [trimZ, if_neg hd] at h; cases h; exact hd

theorem trimZ_ge (l : List UInt8) (hd : allDig l = true) (hne : trimZ l ≠ []) : 10 ^ ((trimZ l).length - 1) ≤ valF 0 (trimZ l) := by
  cases h : trimZ l with
  | nil => exact absurd h hne
  | cons c r =>
    have h48 := trimZ_head h
    have hdt := trimZ_dig l hd
    rw [h] at hdt
    have hc : 48 ≤ c.toNat ∧ c.toNat ≤ 57 := (digB_iff c).1 (by simp [allDig] at hdt; exact hdt.1)
    rw [valF_cons, valF_split, List.length_cons, Nat.add_sub_cancel]
    have : 1 * 10 ^ r.length ≤ (0 * 10 + (c.toNat - 48)) * 10 ^ r.length := Nat.mul_le_mul_right _ (by omega)
    omega

theorem cmpS_val : ∀ (x y : List UInt8) (a : Nat), allDig x = true → allDig y = true → x.length = y.length → cmpS x y = cmpU (valF a x) (valF a y)
  | [], [], a, _, _, _ => by simp [cmpS, cmpU, valF_nil]
  | [], _ :: _, _, _, _, h => by cases h
  | _ :: _, [], _, _, _, h => by cases h
  | c :: x, d :: y, a, hx, hy, hl => by
    have hc : 48 ≤ c.toNat ∧ c.toNat ≤ 57 := (digB_iff c).1 (by simp [allDig] at hx; exact hx.1)
    have hd : 48 ≤ d.toNat ∧ d.toNat ≤ 57 := (digB_iff d).1 (by simp [allDig] at hy; exact hy.1)
    have hx' : allDig x = true := by simp [allDig] at hx ⊢; exact hx.2
    have hy' : allDig y = true := by simp [allDig] at hy ⊢; exact hy.2
    have hl' : x.length = y.length := by simpa using hl
    simp only [cmpS, valF_cons]
    have lx := valF_lt x hx'
    have ly := valF_lt y hy'
    have sx := valF_split x (a * 10 + (c.toNat - 48))
    have sy := valF_split y (a * 10 + (d.toNat - 48))
    rw [hl'] at sx lx
    have key : ∀ p q : Nat, p < q → p * 10 ^ y.length + 10 ^ y.length ≤ q * 10 ^ y.length := fun p q h => by
      have := Nat.mul_le_mul_right (10 ^ y.length) (show p + 1 ≤ q from h)
      rwa [Nat.add_mul, Nat.one_mul] at this
    by_cases h1 : c.toNat < d.toNat
    · rw [if_pos h1]
      have := key _ _ (show a * 10 + (c.toNat - 48) < a * 10 + (d.toNat - 48) by omega)
      rw [cmpU, if_pos (by omega)]
    · rw [if_neg h1]
      by_cases h2 : d.toNat < c.toNat
      · rw [if_pos h2]
        have := key _ _ (show a * 10 + (d.toNat - 48) < a * 10 + (c.toNat - 48) by omega)
        rw [cmpU, if_neg (by omega), if_pos (by omega)]
      · rw [if_neg h2]
        have e : c.toNat = d.toNat := by omega
        rw [e]
        exact cmpS_val x y _ hx' hy' hl'

/-- Two numerals without leading zeros compare as their numbers. -/
theorem cmpN_val (a b : List UInt8) (ha : allDig a = true) (hb : allDig b = true) (na : trimZ a ≠ []) (nb : trimZ b ≠ []) :
    cmpN (trimZ a) (trimZ b) = cmpU (valF 0 a) (valF 0 b) := by
  have ga := trimZ_ge a ha na
  have gb := trimZ_ge b hb nb
  have la := valF_lt _ (trimZ_dig a ha)
  have lb := valF_lt _ (trimZ_dig b hb)
  rw [← trimZ_val a, ← trimZ_val b]
  have pa : 0 < (trimZ a).length := List.length_pos_iff.2 na
  have pb : 0 < (trimZ b).length := List.length_pos_iff.2 nb
  unfold cmpN
  by_cases h1 : (trimZ a).length < (trimZ b).length
  · have : 10 ^ (trimZ a).length ≤ 10 ^ ((trimZ b).length - 1) := Nat.pow_le_pow_right (by decide) (by omega)
    rw [if_pos h1, cmpU, if_pos (by omega)]
  · rw [if_neg h1]
    by_cases h2 : (trimZ b).length < (trimZ a).length
    · have : 10 ^ (trimZ b).length ≤ 10 ^ ((trimZ a).length - 1) := Nat.pow_le_pow_right (by decide) (by omega)
      rw [if_pos h2, cmpU, if_neg (by omega), if_pos (by omega)]
    · rw [if_neg h2]
      exact cmpS_val _ _ 0 (trimZ_dig a ha) (trimZ_dig b hb) (by omega)

def mxT : List UInt8 := [57, 50, 50, 51, 51, 55, 50, 48, 51, 54, 56, 53, 52, 55, 55, 53, 56, 48, 55]

theorem trimZ_nil_iff (l : List UInt8) (hd : allDig l = true) : trimZ l = [] ↔ valF 0 l = 0 := by
  constructor
  · intro h; rw [← trimZ_val l, h, valF_nil]
  · intro h
    cases hh : trimZ l with
    | nil => rfl
    | cons c r =>
      have := trimZ_ge l hd (by rw [hh]; exact List.cons_ne_nil _ _)
      have hp : 0 < 10 ^ ((trimZ l).length - 1) := Nat.pow_pos (by decide)
      rw [trimZ_val] at this
      omega

/-- Over the size: more than nineteen digits, or nineteen that stand above the greatest. -/
theorem big_iff (l : List UInt8) (hd : allDig l = true) (hne : trimZ l ≠ []) : (19 < (trimZ l).length ∨ ((trimZ l).length = 19 ∧ 0 < cmpN (trimZ l) mxT)) ↔ mx < valF 0 l := by
  have g := trimZ_ge l hd hne
  have lt := valF_lt _ (trimZ_dig l hd)
  rw [trimZ_val] at g lt
  have hm := mx_def
  have p18 : (10 : Nat) ^ 18 = 1000000000000000000 := by decide
  have p19 : (10 : Nat) ^ 19 = 10000000000000000000 := by decide
  by_cases h1 : 19 < (trimZ l).length
  · have : 10 ^ 19 ≤ 10 ^ ((trimZ l).length - 1) := Nat.pow_le_pow_right (by decide) (by omega)
    exact ⟨fun _ => by omega, fun _ => .inl h1⟩
  · by_cases h2 : (trimZ l).length = 19
    · have hm19 : mxT.length = 19 := by decide
      have e : cmpN (trimZ l) mxT = cmpU (valF 0 l) mx := by
        unfold cmpN
        rw [if_neg (by omega), if_neg (by omega), cmpS_val _ _ 0 (trimZ_dig l hd) (by decide) (by omega), trimZ_val]
        rw [show valF 0 mxT = mx by decide]
      rw [e]
      constructor
      · rintro (h | ⟨_, h⟩)
        · omega
        · unfold cmpU at h
          by_cases a : valF 0 l < mx
          · rw [if_pos a] at h; omega
          · rw [if_neg a] at h
            by_cases b : mx < valF 0 l
            · exact b
            · rw [if_neg b] at h; omega
      · intro h
        refine .inr ⟨h2, ?_⟩
        rw [cmpU, if_neg (by omega), if_pos h]; decide
    · have : 10 ^ (trimZ l).length ≤ 10 ^ 18 := Nat.pow_le_pow_right (by decide) (by omega)
      constructor
      · rintro (h | ⟨h, _⟩) <;> omega
      · intro h; omega

/-- What b1AnswerFits asks, at ParseSeq's own answer. -/
theorem fits_none (l : List UInt8) (hn : parseL l = none) : allDig l = false ∨ trimZ l = [] ∨ (19 < (trimZ l).length ∨ ((trimZ l).length = 19 ∧ 0 < cmpN (trimZ l) mxT)) := by
  cases hd : allDig l
  · exact .inl rfl
  · by_cases hz : trimZ l = []
    · exact .inr (.inl hz)
    · refine .inr (.inr ((big_iff l hd hz).2 ?_))
      have h0 : valF 0 l ≠ 0 := fun e => hz ((trimZ_nil_iff l hd).2 e)
      unfold parseL at hn
      by_cases hle : valF 0 l ≤ mx
      · rw [if_pos ⟨hd, by omega, hle⟩] at hn; cases hn
      · omega

theorem fits_some (l : List UInt8) (n : Nat) (hn : parseL l = some n) :
    allDig l = true ∧ trimZ l ≠ [] ∧ (trimZ l).length ≤ 19 ∧ ¬ ((trimZ l).length = 19 ∧ 0 < cmpN (trimZ l) mxT) ∧ 10 ^ ((trimZ l).length - 1) ≤ n ∧ n < 10 ^ (trimZ l).length ∧ n ≤ mx ∧ valF 0 l = n := by
  obtain ⟨h0, h1, h2, h3⟩ := parseL_le hn
  have hz : trimZ l ≠ [] := fun e => by have := (trimZ_nil_iff l h2).1 e; omega
  have g := trimZ_ge l h2 hz
  have lt := valF_lt _ (trimZ_dig l h2)
  rw [trimZ_val, h3] at g lt
  have hb := mt (big_iff l h2 hz).1 (by omega)
  exact ⟨h2, hz, Nat.not_lt.1 (fun h => hb (.inl h)), fun h => hb (.inr h), g, lt, h1, h3⟩

end Go.Proofs.Qxb6614506aDoor.Plain
