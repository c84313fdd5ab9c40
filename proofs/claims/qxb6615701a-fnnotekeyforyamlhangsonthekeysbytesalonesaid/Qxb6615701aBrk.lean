/-
  endsLine (33), slices.IndexFunc (39), slices.ContainsFunc (32), zzHasBreak (13).
-/
import Derived.Test.Qxb6615701aRune
namespace Go.Proofs.Qxb6615701a
open Go Go.RowKit
set_option linter.unusedVariables false

theorem ret_bool {a b : Bool} (h : a = b) : Ending.returned (.bool a) = .returned (.bool b) := by rw [h]

theorem ends_any (c : UInt8) (w : World) : Calls Try.prog 33 #[.int .u8 c.toNat] w fun e w' => e = .returned (.bool (Plain.brk c)) ∧ w' = w := by
  by_cases h1 : c.toNat = 10
  · have e : Plain.brk c = true := by simp [Plain.brk, h1]
    have h : ((c.toNat : Int) == 10) = true := by rw [beq_iff_eq]; omega
    rw [e]
    clear e h1
    go_enter Try.func33, Try.ntmps33
    go_wp2
    go_ret
    exact ⟨rfl, rfl⟩
  · have h : ((c.toNat : Int) == 10) = false := beq_eq_false_iff_ne.2 (by omega)
    by_cases h2 : c.toNat = 13
    · have e : Plain.brk c = true := by simp [Plain.brk, h2]
      have h' : ((c.toNat : Int) == 13) = true := by rw [beq_iff_eq]; omega
      rw [e]
      clear e h1 h2
      go_enter Try.func33, Try.ntmps33
      go_wp2
      go_ret
      exact ⟨rfl, rfl⟩
    · have e : Plain.brk c = false := by simp [Plain.brk, h1, h2]
      have h' : ((c.toNat : Int) == 13) = false := beq_eq_false_iff_ne.2 (by omega)
      rw [e]
      clear e h1 h2
      go_enter Try.func33, Try.ntmps33
      go_wp2
      go_ret
      exact ⟨rfl, rfl⟩

theorem br_no {l : List UInt8} (h : ∀ j (hj : j < l.length), Plain.brk l[j] = false) : Plain.hasBr l = false := by
  unfold Plain.hasBr
  rw [List.any_eq_false]
  intro c hc
  obtain ⟨j, hj, rfl⟩ := List.mem_iff_getElem.1 hc
  rw [h j hj]; decide
theorem br_yes {l : List UInt8} {j : Nat} (hj : j < l.length) (h : Plain.brk l[j] = true) : Plain.hasBr l = true := by
  unfold Plain.hasBr
  rw [List.any_eq_true]
  exact ⟨l[j], List.getElem_mem hj, h⟩

/-- The function value 'endsLine'. -/
abbrev eL : Value := .func (.func 33) #[] #[]

set_option maxHeartbeats 400000 in
theorem idx_zero (ao : Option Addr) (cap : Nat) (w : World) : Calls Try.prog 39 #[.slice ao 0 cap, eL] w fun e w' => e = .returned (.int .i64 (-1)) ∧ w' = w := by
  go_enter Try.func39, Try.ntmps39
  go_wp2
  go_loop [8] (fun i => i = .int .i64 0) (fun _ => 0)
  case atStart => rfl
  case round =>
    subst hrel
    go_wp2
    go_ret
    exact ⟨rfl, rfl⟩

set_option maxHeartbeats 400000 in
theorem idx_some (g o n cap : Nat) (l : List UInt8) (hl : l.length = n) (hn : n ≤ 1048576) (hcap : n ≤ cap) (w : World) (hc : ∀ j (hj : j < l.length), w.cell? ⟨g, o + j, none⟩ = some (.int .u8 (l[j]).toNat)) :
    Calls Try.prog 39 #[.slice (some ⟨g, o, none⟩) n cap, eL] w fun e w' => ∃ r : Int, e = .returned (.int .i64 r) ∧ decide (0 ≤ r) = Plain.hasBr l ∧ w' = w := by
  have HL := hide hl
  have HC := hide hc
  clear hl hc
  go_enter Try.func39, Try.ntmps39
  go_wp2
  go_loop [8] (fun i => ∃ k : Nat, k ≤ n ∧ i = .int .i64 k ∧ Hid (∀ j (hj : j < l.length), j < k → Plain.brk l[j] = false)) (fun i => n - (intOf i).toNat)
  case atStart => exact ⟨0, Nat.zero_le _, rfl, fun j _ h => absurd h (Nat.not_lt_zero _)⟩
  case round =>
    obtain ⟨k, hk, rfl, hh⟩ := hrel
    by_cases hlt : k < n
    · have kl : k < l.length := by rw [unhide HL]; exact hlt
      have hcell := unhide HC k kl
      cases hb : Plain.brk l[k]
      · have hnx : Hid (∀ j (hj : j < l.length), j < k + 1 → Plain.brk l[j] = false) := by
          intro j hj hjk
          by_cases e : j = k
          · subst e; exact hb
          · exact hh.out j hj (by omega)
        clear hh
        generalize l[k] = c at hcell hb
        go_wp2_with (go_at_call 33; refine (ends_any c _).mono ?_; rintro e w' ⟨rfl, rfl⟩)
        go_round
        case rel => exact ⟨k + 1, by omega, by go_num, hnx⟩
        case measure => simp [intOf]; omega
      · have hy := hide (br_yes kl hb)
        clear hh
        generalize l[k] = c at hcell hb
        go_wp2_with (go_at_call 33; refine (ends_any c _).mono ?_; rintro e w' ⟨rfl, rfl⟩)
        go_ret
        exact ⟨(k : Int), rfl, by rw [unhide hy]; simp, rfl⟩
    · have hy := hide (br_no (l := l) (fun j hj => hh.out j hj (by have := unhide HL; omega)))
      clear hh
      go_wp2
      go_ret
      exact ⟨-1, rfl, by rw [unhide hy]; rfl, rfl⟩

theorem cont_zero (ao : Option Addr) (cap : Nat) (w : World) : Calls Try.prog 32 #[.slice ao 0 cap, eL] w fun e w' => e = .returned (.bool (Plain.hasBr [])) ∧ w' = w := by
  have e : Plain.hasBr [] = false := rfl
  rw [e]
  clear e
  go_enter Try.func32, Try.ntmps32
  go_wp2_with (go_at_call 39; refine (idx_zero ao cap _).mono ?_; rintro e w' ⟨rfl, rfl⟩)
  go_ret
  exact ⟨rfl, rfl⟩

theorem cont_some (g o n cap : Nat) (l : List UInt8) (hl : l.length = n) (hn : n ≤ 1048576) (hcap : n ≤ cap) (w : World) (hc : ∀ j (hj : j < l.length), w.cell? ⟨g, o + j, none⟩ = some (.int .u8 (l[j]).toNat)) :
    Calls Try.prog 32 #[.slice (some ⟨g, o, none⟩) n cap, eL] w fun e w' => e = .returned (.bool (Plain.hasBr l)) ∧ w' = w := by
  have H := hide (idx_some g o n cap l hl hn hcap w hc)
  clear hl hc
  go_enter Try.func32, Try.ntmps32
  go_wp2_with (go_at_call 39; refine (unhide H).mono ?_; rintro e w' ⟨r, rfl, hr, rfl⟩)
  go_ret
  exact ⟨rfl, rfl⟩

set_option maxHeartbeats 400000 in
theorem brk_zero (ao : Option Addr) (cap : Nat) (w : World) : Calls Try.prog 13 #[.slice ao 0 cap] w fun e w' => e = .returned (.bool (Plain.hasBr [])) ∧ w' = w := by
  have e : Plain.hasBr [] = false := rfl
  rw [e]
  clear e
  go_enter Try.func13, Try.ntmps13
  go_wp2
  go_loop [3] (fun i => i = .int .i64 0) (fun _ => 0)
  case atStart => rfl
  case round =>
    subst hrel
    go_wp2
    go_ret
    exact ⟨rfl, rfl⟩

theorem brk_split {c : UInt8} {b : Bool} (h : Plain.brk c = b) : (((c.toNat : Int) == 10) || ((c.toNat : Int) == 13)) = b := by
  rw [← h, Plain.brk]
  congr 1 <;> rw [Bool.eq_iff_iff, beq_iff_eq, decide_eq_true_iff] <;> omega

set_option maxHeartbeats 800000 in
theorem brk_some (g o n cap : Nat) (l : List UInt8) (hl : l.length = n) (hn : n ≤ 1048576) (hcap : n ≤ cap) (w : World) (hc : ∀ j (hj : j < l.length), w.cell? ⟨g, o + j, none⟩ = some (.int .u8 (l[j]).toNat)) :
    Calls Try.prog 13 #[.slice (some ⟨g, o, none⟩) n cap] w fun e w' => e = .returned (.bool (Plain.hasBr l)) ∧ w' = w := by
  have HL := hide hl
  have HC := hide hc
  clear hl hc
  go_enter Try.func13, Try.ntmps13
  go_wp2
  go_loop [3] (fun i => ∃ k : Nat, k ≤ n ∧ i = .int .i64 k ∧ Hid (∀ j (hj : j < l.length), j < k → Plain.brk l[j] = false)) (fun i => n - (intOf i).toNat)
  case atStart => exact ⟨0, Nat.zero_le _, rfl, fun j _ h => absurd h (Nat.not_lt_zero _)⟩
  case round =>
    obtain ⟨k, hk, rfl, hh⟩ := hrel
    by_cases hlt : k < n
    · have kl : k < l.length := by rw [unhide HL]; exact hlt
      have hcell := unhide HC k kl
      cases hb : Plain.brk l[k]
      · have hnx : Hid (∀ j (hj : j < l.length), j < k + 1 → Plain.brk l[j] = false) := by
          intro j hj hjk
          by_cases e : j = k
          · subst e; exact hb
          · exact hh.out j hj (by omega)
        clear hh
        have hs := brk_split hb
        rw [Bool.or_eq_false_iff] at hs
        obtain ⟨s1, s2⟩ := hs
        generalize l[k] = c at hcell s1 s2
        clear hb
        go_wp2
        go_round
        case rel => exact ⟨k + 1, by omega, by go_num, hnx⟩
        case measure => simp [intOf]; omega
      · have hy := hide (br_yes kl hb)
        clear hh
        have hs := brk_split hb
        generalize l[k] = c at hcell hs
        clear hb
        cases s1 : ((c.toNat : Int) == 10)
        · have s2 : ((c.toNat : Int) == 13) = true := by rw [s1] at hs; simpa using hs
          clear hs
          go_wp2
          go_ret
          exact ⟨ret_bool (unhide hy).symm, rfl⟩
        · clear hs
          go_wp2
          go_ret
          exact ⟨ret_bool (unhide hy).symm, rfl⟩
    · have hy := hide (br_no (l := l) (fun j hj => hh.out j hj (by have := unhide HL; omega)))
      clear hh
      go_wp2
      go_ret
      exact ⟨ret_bool (unhide hy).symm, rfl⟩
end Go.Proofs.Qxb6615701a
