/-
  b1AnswerFits (10): true at ParseSeq's own answer.
-/
import Derived.Test.Qxb6614506aDoorCmp
namespace Go.Proofs.Qxb6614506aDoor
open Go.Shelf Go.RowKit
set_option linter.unusedVariables false

def mxB : ByteArray := ⟨#[57, 50, 50, 51, 51, 55, 50, 48, 51, 54, 56, 53, 52, 55, 55, 53, 56, 48, 55]⟩

/-- Refused: not all digits. -/
theorem fits_a (s : ByteArray) (w : World) (hs : s.size ≤ 281474976710656) (hd : Plain.allDig s.data.toList = false) :
    Calls Tryd.prog 10 #[.string s, .int .u64 0, .bool false] w fun e w' => e = .returned (.bool true) ∧ ∃ n, w' = w.drewN n := by
  go_enter Tryd.func10, Tryd.ntmps10
  go_wp2_with (first | (go_at_call 7; refine (digits_any _ _ hs).mono ?_; rintro e w' ⟨rfl, rfl⟩) | (go_at_call 13; refine (trim_any _ _ hs).mono ?_; rintro e w' ⟨t, rfl, ht, hts, rfl⟩; have Ht := hide ht; clear ht))
  go_ret
  exact ⟨rfl, 0, rfl⟩

/-- Refused: nothing but zeros. -/
theorem fits_b (s : ByteArray) (w : World) (hs : s.size ≤ 281474976710656) (hd : Plain.allDig s.data.toList = true) (hz : Plain.trimZ s.data.toList = []) :
    Calls Tryd.prog 10 #[.string s, .int .u64 0, .bool false] w fun e w' => e = .returned (.bool true) ∧ ∃ n, w' = w.drewN n := by
  go_enter Tryd.func10, Tryd.ntmps10
  go_wp2_with (go_at_call 13; refine (trim_any _ _ hs).mono ?_; rintro e w' ⟨t, rfl, ht, hts, rfl⟩; have h0 : ((t.size : Int) == 0) = true := (by rw [Lib.size_eq, ht, hz]; rfl); clear ht)
  go_wp2_with (go_at_call 7; refine (digits_any _ _ hs).mono ?_; rintro e w' ⟨rfl, rfl⟩)
  go_ret
  exact ⟨rfl, 0, rfl⟩

/-- Refused: more than nineteen digits. -/
theorem fits_c (s : ByteArray) (w : World) (hs : s.size ≤ 281474976710656) (hd : Plain.allDig s.data.toList = true) (hz : 19 < (Plain.trimZ s.data.toList).length) :
    Calls Tryd.prog 10 #[.string s, .int .u64 0, .bool false] w fun e w' => e = .returned (.bool true) ∧ ∃ n, w' = w.drewN n := by
  go_enter Tryd.func10, Tryd.ntmps10
  go_wp2_with (go_at_call 13; refine (trim_any _ _ hs).mono ?_; rintro e w' ⟨t, rfl, ht, hts, rfl⟩; rw [← ht, ← Lib.size_eq] at hz; clear ht)
  have h0 : ((t.size : Int) == 0) = false := beq_eq_false_iff_ne.2 (by omega)
  go_wp2_with (go_at_call 7; refine (digits_any _ _ hs).mono ?_; rintro e w' ⟨rfl, rfl⟩)
  go_ret
  exact ⟨rfl, 0, rfl⟩

/-- Refused: nineteen digits above the greatest. -/
theorem fits_d (s : ByteArray) (w : World) (hs : s.size ≤ 281474976710656) (hd : Plain.allDig s.data.toList = true) (hz : (Plain.trimZ s.data.toList).length = 19) (hc : 0 < Plain.cmpN (Plain.trimZ s.data.toList) Plain.mxT) :
    Calls Tryd.prog 10 #[.string s, .int .u64 0, .bool false] w fun e w' => e = .returned (.bool true) ∧ ∃ n, w' = w.drewN n := by
  go_enter Tryd.func10, Tryd.ntmps10
  go_wp2_with (go_at_call 13; refine (trim_any _ _ hs).mono ?_; rintro e w' ⟨t, rfl, ht, hts, rfl⟩; rw [← ht, ← Lib.size_eq] at hz; rw [← ht] at hc; clear ht)
  have h0 : ((t.size : Int) == 0) = false := beq_eq_false_iff_ne.2 (by omega)
  have h1 : ((t.size : Int) == 19) = true := beq_iff_eq.2 (by omega)
  have h2 : (t.size : Int) ≤ 19 := by omega
  have hc' : 0 < Plain.cmpN t.data.toList mxB.data.toList := hc
  clear hz hc
  go_wp2_with (go_at_call 7; refine (digits_any _ _ hs).mono ?_; rintro e w' ⟨rfl, rfl⟩)
  refine (cmp_any t mxB _ (by omega)).mono ?_
  rintro e w' ⟨rfl, n, rfl⟩
  go_wp2
  go_ret
  exact ⟨rfl, n, rfl⟩

/-- Accepted: at most eighteen digits. -/
theorem fits_e (s : ByteArray) (a : Int) (w : World) (hs : s.size ≤ 281474976710656) (hd : Plain.allDig s.data.toList = true) (hz : Plain.trimZ s.data.toList ≠ []) (hl : (Plain.trimZ s.data.toList).length ≤ 18)
    (n : Nat) (ha : a = n) (h1 : 10 ^ ((Plain.trimZ s.data.toList).length - 1) ≤ n) (h2 : n < 10 ^ (Plain.trimZ s.data.toList).length) (h3 : n ≤ Plain.mx) :
    Calls Tryd.prog 10 #[.string s, .int .u64 a, .bool true] w fun e w' => e = .returned (.bool true) ∧ ∃ n, w' = w.drewN n := by
  have hp : 0 < (Plain.trimZ s.data.toList).length := List.length_pos_iff.2 hz
  rw [Plain.mx_def] at h3
  have a1 : a ≤ 9223372036854775807 := by omega
  obtain ⟨q, hq⟩ : ∃ q : Nat, q = (Plain.trimZ s.data.toList).length - 1 := ⟨_, rfl⟩
  have hl1 : (Plain.trimZ s.data.toList).length = q + 1 := by omega
  have p1 : ((10 ^ q : Nat) : Int) ≤ a := by rw [ha, hq]; exact Int.ofNat_le.2 h1
  have p2 : a < ((10 ^ (q + 1) : Nat) : Int) := by rw [ha, ← hl1]; exact Int.ofNat_lt.2 h2
  have hl18 : q ≤ 17 := by omega
  have P1 := hide p1
  have P2 := hide p2
  clear h1 h2 h3 ha hz hp hl p1 p2 hq
  go_enter Tryd.func10, Tryd.ntmps10
  go_wp2_with (go_at_call 13; refine (trim_any _ _ hs).mono ?_; rintro e w' ⟨t, rfl, ht, hts, rfl⟩; rw [← ht, ← Lib.size_eq] at hl1; clear ht)
  have h0 : ((t.size : Int) == 0) = false := beq_eq_false_iff_ne.2 (by omega)
  have h1 : ((t.size : Int) == 19) = false := beq_eq_false_iff_ne.2 (by omega)
  have h2 : (t.size : Int) ≤ 18 := by omega
  have Hl := hide hl1
  clear hl1
  go_wp2_with (go_at_call 7; refine (digits_any _ _ hs).mono ?_; rintro e w' ⟨rfl, rfl⟩)
  rw [show ((t.size : Int) - 1) = ((q : Nat) : Int) by have := unhide Hl; omega]
  refine (pow_any q (by omega) _).mono ?_
  rintro e w' ⟨z, rfl, hz, rfl⟩
  have z1 : z ≤ a := by rw [hz]; exact unhide P1
  clear hz
  go_wp2_with fail
  rw [show (t.size : Int) = ((q + 1 : Nat) : Int) by have := unhide Hl; omega]
  refine (pow_any (q + 1) (by omega) _).mono ?_
  rintro e w' ⟨z2, rfl, hz2, rfl⟩
  have z2' : a < z2 := by rw [hz2]; exact unhide P2
  clear hz2
  go_wp2
  go_ret
  exact ⟨rfl, 0, rfl⟩

/-- Accepted: nineteen digits. -/
theorem fits_f (s : ByteArray) (a : Int) (w : World) (hs : s.size ≤ 281474976710656) (hd : Plain.allDig s.data.toList = true) (hl : (Plain.trimZ s.data.toList).length = 19) (hc : ¬ 0 < Plain.cmpN (Plain.trimZ s.data.toList) Plain.mxT)
    (n : Nat) (ha : a = n) (h1 : 10 ^ ((Plain.trimZ s.data.toList).length - 1) ≤ n) (h3 : n ≤ Plain.mx) :
    Calls Tryd.prog 10 #[.string s, .int .u64 a, .bool true] w fun e w' => e = .returned (.bool true) ∧ ∃ n, w' = w.drewN n := by
  rw [Plain.mx_def] at h3
  have a1 : a ≤ 9223372036854775807 := by omega
  have p1 : ((10 ^ 18 : Nat) : Int) ≤ a := by rw [ha]; rw [hl] at h1; exact Int.ofNat_le.2 h1
  have P1 := hide p1
  clear h1 h3 ha p1
  go_enter Tryd.func10, Tryd.ntmps10
  go_wp2_with (go_at_call 13; refine (trim_any _ _ hs).mono ?_; rintro e w' ⟨t, rfl, ht, hts, rfl⟩; rw [← ht, ← Lib.size_eq] at hl; rw [← ht] at hc; clear ht)
  have h0 : ((t.size : Int) == 0) = false := beq_eq_false_iff_ne.2 (by omega)
  have h1 : ((t.size : Int) == 19) = true := beq_iff_eq.2 (by omega)
  have h2 : (t.size : Int) ≤ 19 := by omega
  have h3 : 18 < (t.size : Int) := by omega
  have hc' : Plain.cmpN t.data.toList mxB.data.toList ≤ 0 := hc
  have Hl := hide hl
  clear hl hc
  go_wp2_with (go_at_call 7; refine (digits_any _ _ hs).mono ?_; rintro e w' ⟨rfl, rfl⟩)
  refine (cmp_any t mxB _ (by omega)).mono ?_
  rintro e w' ⟨rfl, m, rfl⟩
  go_wp2_with fail
  rw [show ((t.size : Int) - 1) = ((18 : Nat) : Int) by have := unhide Hl; omega]
  refine (pow_any 18 (by omega) _).mono ?_
  rintro e w' ⟨z, rfl, hz, rfl⟩
  have z1 : z ≤ a := by rw [hz]; exact unhide P1
  clear hz
  go_wp2
  go_ret
  exact ⟨rfl, m, rfl⟩

/-- b1AnswerFits at ParseSeq's refusal. -/
theorem fits_no (s : ByteArray) (w : World) (hs : s.size ≤ 281474976710656) (hn : Plain.parseL s.data.toList = none) :
    Calls Tryd.prog 10 #[.string s, .int .u64 0, .bool false] w fun e w' => e = .returned (.bool true) ∧ ∃ n, w' = w.drewN n := by
  cases hd : Plain.allDig s.data.toList
  · exact fits_a s w hs hd
  · rcases Plain.fits_none _ hn with h | h | h | h
    · rw [hd] at h; cases h
    · exact fits_b s w hs hd h
    · exact fits_c s w hs hd h
    · exact fits_d s w hs hd h.1 h.2

/-- b1AnswerFits at ParseSeq's acceptance. -/
theorem fits_yes (s : ByteArray) (a : Int) (n : Nat) (ha : a = n) (w : World) (hs : s.size ≤ 281474976710656) (hn : Plain.parseL s.data.toList = some n) :
    Calls Tryd.prog 10 #[.string s, .int .u64 a, .bool true] w fun e w' => e = .returned (.bool true) ∧ ∃ n, w' = w.drewN n := by
  obtain ⟨hd, hz, hl, hc, h1, h2, h3, _⟩ := Plain.fits_some _ n hn
  by_cases h19 : (Plain.trimZ s.data.toList).length = 19
  · exact fits_f s a w hs hd h19 (fun h => hc ⟨h19, h⟩) n ha h1 h3
  · exact fits_e s a w hs hd hz (by omega) n ha h1 h2 h3
end Go.Proofs.Qxb6614506aDoor
