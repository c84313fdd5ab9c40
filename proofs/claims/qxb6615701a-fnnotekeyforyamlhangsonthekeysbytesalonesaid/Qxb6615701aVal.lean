/-
  zzIn (38), zzValidLen (31), zzRuneCount (26), zzYAMLNote (8).
-/
import Derived.Test.Qxb6615701aGet
namespace Go.Proofs.Qxb6615701a
open Go Go.RowKit
set_option linter.unusedVariables false

/-- The slice's elements are the bytes l, from ⟨g, o⟩ on. -/
def At (w : World) (g o : Nat) (l : List UInt8) : Prop := ∀ j (hj : j < l.length), w.cell? ⟨g, o + j, none⟩ = some (.int .u8 (l[j]).toNat)

theorem inR_out {l : List UInt8} {j lo hi : Nat} (h : ¬ j < l.length) : Plain.inR l j lo hi = false := by
  unfold Plain.inR
  rw [decide_eq_false h]; rfl
theorem inR_in {l : List UInt8} {j lo hi : Nat} (h : j < l.length) : Plain.inR l j lo hi = (decide (lo ≤ (l[j]).toNat) && decide ((l[j]).toNat ≤ hi)) := by
  unfold Plain.inR
  rw [decide_eq_true h, Bool.true_and]
  simp [List.getD, h]

set_option maxHeartbeats 400000 in
set_option maxRecDepth 100000 in
theorem in_any (g o n cap : Nat) (l : List UInt8) (hl : l.length = n) (hn : n ≤ 1048576) (hcap : n ≤ cap) (j lo hi : Nat) (jv lov hiv : Int) (hjv : jv = j) (hlo : lov = lo) (hhi : hiv = hi) (hj : j ≤ 2097152) (w : World) (hc : At w g o l) :
    Calls Try.prog 38 #[.slice (some ⟨g, o, none⟩) n cap, .int .i64 jv, .int .u8 lov, .int .u8 hiv] w fun e w' => e = .returned (.bool (Plain.inR l j lo hi)) ∧ w = w' := by
  subst hjv hlo hhi
  by_cases h : j < n
  · have h' : j < l.length := by omega
    have hcell := hc j h'
    have hR := inR_in (lo := lo) (hi := hi) h'
    generalize l[j] = c at hcell hR
    rw [hR]
    clear hR hc hl h'
    by_cases h1 : lo ≤ c.toNat
    · by_cases h2 : c.toNat ≤ hi
      · have e : (decide (lo ≤ c.toNat) && decide (c.toNat ≤ hi)) = true := by rw [decide_eq_true h1, decide_eq_true h2]; rfl
        rw [e]
        clear e
        go_enter Try.func38, Try.ntmps38
        go_wp2
        go_ret
        exact ⟨rfl, rfl⟩
      · have e : (decide (lo ≤ c.toNat) && decide (c.toNat ≤ hi)) = false := by rw [decide_eq_false h2, Bool.and_false]
        rw [e]
        clear e
        go_enter Try.func38, Try.ntmps38
        go_wp2
        go_ret
        exact ⟨rfl, rfl⟩
    · have e : (decide (lo ≤ c.toNat) && decide (c.toNat ≤ hi)) = false := by rw [decide_eq_false h1, Bool.false_and]
      rw [e]
      clear e
      go_enter Try.func38, Try.ntmps38
      go_wp2
      go_ret
      exact ⟨rfl, rfl⟩
  · rw [inR_out (by omega)]
    clear hc hl
    go_enter Try.func38, Try.ntmps38
    go_wp2
    go_ret
    exact ⟨rfl, rfl⟩
/-! ### zzValidLen -/
theorem getD_at {l : List UInt8} {i : Nat} (h : i < l.length) : l.getD i 0 = l[i] := by simp [List.getD, h]

theorem vl_a {l : List UInt8} {i : Nat} {c : UInt8} (hc : l.getD i 0 = c) (h : c.toNat < 128) : Plain.vlen l i = 1 := by
  unfold Plain.vlen
  rw [hc]
  dsimp only
  rw [if_pos (show c.toNat < 128 by omega)]

theorem vl_lo {l : List UInt8} {i : Nat} {c : UInt8} (hc : l.getD i 0 = c) (h : 128 ≤ c.toNat ∧ c.toNat ≤ 193) : Plain.vlen l i = 1 := by
  unfold Plain.vlen
  rw [hc]
  dsimp only
  rw [if_neg (show ¬ c.toNat < 128 by omega), if_neg (show ¬ (194 ≤ c.toNat ∧ c.toNat ≤ 223) by omega), if_neg (show ¬ c.toNat = 224 by omega), if_neg (show ¬ c.toNat = 237 by omega), if_neg (show ¬ (225 ≤ c.toNat ∧ c.toNat ≤ 239) by omega), if_neg (show ¬ c.toNat = 240 by omega), if_neg (show ¬ (241 ≤ c.toNat ∧ c.toNat ≤ 243) by omega), if_neg (show ¬ c.toNat = 244 by omega)]

theorem vl_b {l : List UInt8} {i : Nat} {c : UInt8} (hc : l.getD i 0 = c) (h : 194 ≤ c.toNat ∧ c.toNat ≤ 223) : Plain.vlen l i = if (Plain.inR l (i + 1) 128 191) = true then 2 else 1 := by
  unfold Plain.vlen
  rw [hc]
  dsimp only
  rw [if_neg (show ¬ c.toNat < 128 by omega), if_pos (show (194 ≤ c.toNat ∧ c.toNat ≤ 223) by omega)]

theorem vl_e0 {l : List UInt8} {i : Nat} {c : UInt8} (hc : l.getD i 0 = c) (h : c.toNat = 224) : Plain.vlen l i = if (Plain.inR l (i + 1) 160 191 && Plain.inR l (i + 2) 128 191) = true then 3 else 1 := by
  unfold Plain.vlen
  rw [hc]
  dsimp only
  rw [if_neg (show ¬ c.toNat < 128 by omega), if_neg (show ¬ (194 ≤ c.toNat ∧ c.toNat ≤ 223) by omega), if_pos (show c.toNat = 224 by omega)]

theorem vl_ed {l : List UInt8} {i : Nat} {c : UInt8} (hc : l.getD i 0 = c) (h : c.toNat = 237) : Plain.vlen l i = if (Plain.inR l (i + 1) 128 159 && Plain.inR l (i + 2) 128 191) = true then 3 else 1 := by
  unfold Plain.vlen
  rw [hc]
  dsimp only
  rw [if_neg (show ¬ c.toNat < 128 by omega), if_neg (show ¬ (194 ≤ c.toNat ∧ c.toNat ≤ 223) by omega), if_neg (show ¬ c.toNat = 224 by omega), if_pos (show c.toNat = 237 by omega)]

theorem vl_e1 {l : List UInt8} {i : Nat} {c : UInt8} (hc : l.getD i 0 = c) (h : 225 ≤ c.toNat ∧ c.toNat ≤ 236) : Plain.vlen l i = if (Plain.inR l (i + 1) 128 191 && Plain.inR l (i + 2) 128 191) = true then 3 else 1 := by
  unfold Plain.vlen
  rw [hc]
  dsimp only
  rw [if_neg (show ¬ c.toNat < 128 by omega), if_neg (show ¬ (194 ≤ c.toNat ∧ c.toNat ≤ 223) by omega), if_neg (show ¬ c.toNat = 224 by omega), if_neg (show ¬ c.toNat = 237 by omega), if_pos (show (225 ≤ c.toNat ∧ c.toNat ≤ 239) by omega)]

theorem vl_e2 {l : List UInt8} {i : Nat} {c : UInt8} (hc : l.getD i 0 = c) (h : 238 ≤ c.toNat ∧ c.toNat ≤ 239) : Plain.vlen l i = if (Plain.inR l (i + 1) 128 191 && Plain.inR l (i + 2) 128 191) = true then 3 else 1 := by
  unfold Plain.vlen
  rw [hc]
  dsimp only
  rw [if_neg (show ¬ c.toNat < 128 by omega), if_neg (show ¬ (194 ≤ c.toNat ∧ c.toNat ≤ 223) by omega), if_neg (show ¬ c.toNat = 224 by omega), if_neg (show ¬ c.toNat = 237 by omega), if_pos (show (225 ≤ c.toNat ∧ c.toNat ≤ 239) by omega)]

theorem vl_f0 {l : List UInt8} {i : Nat} {c : UInt8} (hc : l.getD i 0 = c) (h : c.toNat = 240) : Plain.vlen l i = if (Plain.inR l (i + 1) 144 191 && Plain.inR l (i + 2) 128 191 && Plain.inR l (i + 3) 128 191) = true then 4 else 1 := by
  unfold Plain.vlen
  rw [hc]
  dsimp only
  rw [if_neg (show ¬ c.toNat < 128 by omega), if_neg (show ¬ (194 ≤ c.toNat ∧ c.toNat ≤ 223) by omega), if_neg (show ¬ c.toNat = 224 by omega), if_neg (show ¬ c.toNat = 237 by omega), if_neg (show ¬ (225 ≤ c.toNat ∧ c.toNat ≤ 239) by omega), if_pos (show c.toNat = 240 by omega)]

theorem vl_f1 {l : List UInt8} {i : Nat} {c : UInt8} (hc : l.getD i 0 = c) (h : 241 ≤ c.toNat ∧ c.toNat ≤ 243) : Plain.vlen l i = if (Plain.inR l (i + 1) 128 191 && Plain.inR l (i + 2) 128 191 && Plain.inR l (i + 3) 128 191) = true then 4 else 1 := by
  unfold Plain.vlen
  rw [hc]
  dsimp only
  rw [if_neg (show ¬ c.toNat < 128 by omega), if_neg (show ¬ (194 ≤ c.toNat ∧ c.toNat ≤ 223) by omega), if_neg (show ¬ c.toNat = 224 by omega), if_neg (show ¬ c.toNat = 237 by omega), if_neg (show ¬ (225 ≤ c.toNat ∧ c.toNat ≤ 239) by omega), if_neg (show ¬ c.toNat = 240 by omega), if_pos (show (241 ≤ c.toNat ∧ c.toNat ≤ 243) by omega)]

theorem vl_f4 {l : List UInt8} {i : Nat} {c : UInt8} (hc : l.getD i 0 = c) (h : c.toNat = 244) : Plain.vlen l i = if (Plain.inR l (i + 1) 128 143 && Plain.inR l (i + 2) 128 191 && Plain.inR l (i + 3) 128 191) = true then 4 else 1 := by
  unfold Plain.vlen
  rw [hc]
  dsimp only
  rw [if_neg (show ¬ c.toNat < 128 by omega), if_neg (show ¬ (194 ≤ c.toNat ∧ c.toNat ≤ 223) by omega), if_neg (show ¬ c.toNat = 224 by omega), if_neg (show ¬ c.toNat = 237 by omega), if_neg (show ¬ (225 ≤ c.toNat ∧ c.toNat ≤ 239) by omega), if_neg (show ¬ c.toNat = 240 by omega), if_neg (show ¬ (241 ≤ c.toNat ∧ c.toNat ≤ 243) by omega), if_pos (show c.toNat = 244 by omega)]

theorem vl_hi {l : List UInt8} {i : Nat} {c : UInt8} (hc : l.getD i 0 = c) (h : 245 ≤ c.toNat) : Plain.vlen l i = 1 := by
  unfold Plain.vlen
  rw [hc]
  dsimp only
  rw [if_neg (show ¬ c.toNat < 128 by omega), if_neg (show ¬ (194 ≤ c.toNat ∧ c.toNat ≤ 223) by omega), if_neg (show ¬ c.toNat = 224 by omega), if_neg (show ¬ c.toNat = 237 by omega), if_neg (show ¬ (225 ≤ c.toNat ∧ c.toNat ≤ 239) by omega), if_neg (show ¬ c.toNat = 240 by omega), if_neg (show ¬ (241 ≤ c.toNat ∧ c.toNat ≤ 243) by omega), if_neg (show ¬ c.toNat = 244 by omega)]

set_option maxHeartbeats 1600000 in
set_option maxRecDepth 100000 in
theorem val_a (g o n cap : Nat) (l : List UInt8) (hl : l.length = n) (hn : n ≤ 1048576) (hcap : n ≤ cap) (i : Nat) (hi : i < n) (w : World) (hA : At w g o l) (c : UInt8) (hcell : w.cell? ⟨g, o + i, none⟩ = some (.int .u8 c.toNat)) (hc : l.getD i 0 = c) (h : c.toNat < 128) :
    Calls Try.prog 31 #[.slice (some ⟨g, o, none⟩) n cap, .int .i64 i] w fun e w' => e = .returned (.int .i64 (Plain.vlen l i)) ∧ w = w' := by
  rw [vl_a hc h]
  have t1 : ((c.toNat : Int) == 224) = false := by exact beq_eq_false_iff_ne.2 (by omega)
  have t2 : ((c.toNat : Int) == 237) = false := by exact beq_eq_false_iff_ne.2 (by omega)
  have t3 : ((c.toNat : Int) == 240) = false := by exact beq_eq_false_iff_ne.2 (by omega)
  have t4 : ((c.toNat : Int) == 244) = false := by exact beq_eq_false_iff_ne.2 (by omega)
  have b0 : (c.toNat : Int) < 128 := by omega
  have b1 : 0 ≤ (c.toNat : Int) := by omega
  have b2 : (c.toNat : Int) ≤ 127 := by have := c.toNat_lt; omega
  have HA := hide hA
  have HL := hide hl
  clear hA hl hc h
  go_enter Try.func31, Try.ntmps31
  go_wp2
  go_ret
  exact ⟨rfl, rfl⟩

set_option maxHeartbeats 1600000 in
set_option maxRecDepth 100000 in
theorem val_lo (g o n cap : Nat) (l : List UInt8) (hl : l.length = n) (hn : n ≤ 1048576) (hcap : n ≤ cap) (i : Nat) (hi : i < n) (w : World) (hA : At w g o l) (c : UInt8) (hcell : w.cell? ⟨g, o + i, none⟩ = some (.int .u8 c.toNat)) (hc : l.getD i 0 = c) (h : 128 ≤ c.toNat ∧ c.toNat ≤ 193) :
    Calls Try.prog 31 #[.slice (some ⟨g, o, none⟩) n cap, .int .i64 i] w fun e w' => e = .returned (.int .i64 (Plain.vlen l i)) ∧ w = w' := by
  rw [vl_lo hc h]
  have t1 : ((c.toNat : Int) == 224) = false := by exact beq_eq_false_iff_ne.2 (by omega)
  have t2 : ((c.toNat : Int) == 237) = false := by exact beq_eq_false_iff_ne.2 (by omega)
  have t3 : ((c.toNat : Int) == 240) = false := by exact beq_eq_false_iff_ne.2 (by omega)
  have t4 : ((c.toNat : Int) == 244) = false := by exact beq_eq_false_iff_ne.2 (by omega)
  have b0 : 128 ≤ (c.toNat : Int) := by omega
  have b1 : 128 ≤ (c.toNat : Int) := by omega
  have b2 : (c.toNat : Int) ≤ 193 := by have := c.toNat_lt; omega
  have HA := hide hA
  have HL := hide hl
  clear hA hl hc h
  go_enter Try.func31, Try.ntmps31
  go_wp2
  go_ret
  exact ⟨rfl, rfl⟩

set_option maxHeartbeats 1600000 in
set_option maxRecDepth 100000 in
theorem val_b (g o n cap : Nat) (l : List UInt8) (hl : l.length = n) (hn : n ≤ 1048576) (hcap : n ≤ cap) (i : Nat) (hi : i < n) (w : World) (hA : At w g o l) (c : UInt8) (hcell : w.cell? ⟨g, o + i, none⟩ = some (.int .u8 c.toNat)) (hc : l.getD i 0 = c) (h : 194 ≤ c.toNat ∧ c.toNat ≤ 223) :
    Calls Try.prog 31 #[.slice (some ⟨g, o, none⟩) n cap, .int .i64 i] w fun e w' => e = .returned (.int .i64 (Plain.vlen l i)) ∧ w = w' := by
  rw [vl_b hc h]
  have t1 : ((c.toNat : Int) == 224) = false := by exact beq_eq_false_iff_ne.2 (by omega)
  have t2 : ((c.toNat : Int) == 237) = false := by exact beq_eq_false_iff_ne.2 (by omega)
  have t3 : ((c.toNat : Int) == 240) = false := by exact beq_eq_false_iff_ne.2 (by omega)
  have t4 : ((c.toNat : Int) == 244) = false := by exact beq_eq_false_iff_ne.2 (by omega)
  have b0 : 128 ≤ (c.toNat : Int) := by omega
  have b1 : 194 ≤ (c.toNat : Int) := by omega
  have b2 : (c.toNat : Int) ≤ 223 := by have := c.toNat_lt; omega
  have HA := hide hA
  have HL := hide hl
  clear hA hl hc h
  cases q1 : Plain.inR l (i + 1) 128 191
  · go_enter Try.func31, Try.ntmps31
    go_wp2_with fail
    refine (in_any g o n cap l (unhide HL) hn hcap (i + 1) 128 191 _ _ _ (by omega) rfl rfl (by omega) _ (unhide HA)).mono ?_
    rintro e w1 ⟨rfl, rfl⟩
    rw [q1]
    go_wp2_with fail
    go_ret
    exact ⟨rfl, rfl⟩
  · go_enter Try.func31, Try.ntmps31
    go_wp2_with fail
    refine (in_any g o n cap l (unhide HL) hn hcap (i + 1) 128 191 _ _ _ (by omega) rfl rfl (by omega) _ (unhide HA)).mono ?_
    rintro e w1 ⟨rfl, rfl⟩
    rw [q1]
    go_wp2_with fail
    go_ret
    exact ⟨rfl, rfl⟩

set_option maxHeartbeats 1600000 in
set_option maxRecDepth 100000 in
theorem val_e0 (g o n cap : Nat) (l : List UInt8) (hl : l.length = n) (hn : n ≤ 1048576) (hcap : n ≤ cap) (i : Nat) (hi : i < n) (w : World) (hA : At w g o l) (c : UInt8) (hcell : w.cell? ⟨g, o + i, none⟩ = some (.int .u8 c.toNat)) (hc : l.getD i 0 = c) (h : c.toNat = 224) :
    Calls Try.prog 31 #[.slice (some ⟨g, o, none⟩) n cap, .int .i64 i] w fun e w' => e = .returned (.int .i64 (Plain.vlen l i)) ∧ w = w' := by
  rw [vl_e0 hc h]
  have t1 : ((c.toNat : Int) == 224) = true := by rw [beq_iff_eq]; omega
  have t2 : ((c.toNat : Int) == 237) = false := by exact beq_eq_false_iff_ne.2 (by omega)
  have t3 : ((c.toNat : Int) == 240) = false := by exact beq_eq_false_iff_ne.2 (by omega)
  have t4 : ((c.toNat : Int) == 244) = false := by exact beq_eq_false_iff_ne.2 (by omega)
  have b0 : 128 ≤ (c.toNat : Int) := by omega
  have b1 : 224 ≤ (c.toNat : Int) := by omega
  have b2 : (c.toNat : Int) ≤ 224 := by have := c.toNat_lt; omega
  have HA := hide hA
  have HL := hide hl
  clear hA hl hc h
  cases q1 : Plain.inR l (i + 1) 160 191
  · go_enter Try.func31, Try.ntmps31
    go_wp2_with fail
    refine (in_any g o n cap l (unhide HL) hn hcap (i + 1) 160 191 _ _ _ (by omega) rfl rfl (by omega) _ (unhide HA)).mono ?_
    rintro e w1 ⟨rfl, rfl⟩
    rw [q1]
    go_wp2_with fail
    go_ret
    exact ⟨rfl, rfl⟩
  · skip
    cases q2 : Plain.inR l (i + 2) 128 191
    · go_enter Try.func31, Try.ntmps31
      go_wp2_with fail
      refine (in_any g o n cap l (unhide HL) hn hcap (i + 1) 160 191 _ _ _ (by omega) rfl rfl (by omega) _ (unhide HA)).mono ?_
      rintro e w1 ⟨rfl, rfl⟩
      rw [q1]
      go_wp2_with fail
      refine (in_any g o n cap l (unhide HL) hn hcap (i + 2) 128 191 _ _ _ (by omega) rfl rfl (by omega) _ (unhide HA)).mono ?_
      rintro e w1 ⟨rfl, rfl⟩
      rw [q2]
      go_wp2_with fail
      go_ret
      exact ⟨rfl, rfl⟩
    · go_enter Try.func31, Try.ntmps31
      go_wp2_with fail
      refine (in_any g o n cap l (unhide HL) hn hcap (i + 1) 160 191 _ _ _ (by omega) rfl rfl (by omega) _ (unhide HA)).mono ?_
      rintro e w1 ⟨rfl, rfl⟩
      rw [q1]
      go_wp2_with fail
      refine (in_any g o n cap l (unhide HL) hn hcap (i + 2) 128 191 _ _ _ (by omega) rfl rfl (by omega) _ (unhide HA)).mono ?_
      rintro e w1 ⟨rfl, rfl⟩
      rw [q2]
      go_wp2_with fail
      go_ret
      exact ⟨rfl, rfl⟩

set_option maxHeartbeats 1600000 in
set_option maxRecDepth 100000 in
theorem val_ed (g o n cap : Nat) (l : List UInt8) (hl : l.length = n) (hn : n ≤ 1048576) (hcap : n ≤ cap) (i : Nat) (hi : i < n) (w : World) (hA : At w g o l) (c : UInt8) (hcell : w.cell? ⟨g, o + i, none⟩ = some (.int .u8 c.toNat)) (hc : l.getD i 0 = c) (h : c.toNat = 237) :
    Calls Try.prog 31 #[.slice (some ⟨g, o, none⟩) n cap, .int .i64 i] w fun e w' => e = .returned (.int .i64 (Plain.vlen l i)) ∧ w = w' := by
  rw [vl_ed hc h]
  have t1 : ((c.toNat : Int) == 224) = false := by exact beq_eq_false_iff_ne.2 (by omega)
  have t2 : ((c.toNat : Int) == 237) = true := by rw [beq_iff_eq]; omega
  have t3 : ((c.toNat : Int) == 240) = false := by exact beq_eq_false_iff_ne.2 (by omega)
  have t4 : ((c.toNat : Int) == 244) = false := by exact beq_eq_false_iff_ne.2 (by omega)
  have b0 : 128 ≤ (c.toNat : Int) := by omega
  have b1 : 237 ≤ (c.toNat : Int) := by omega
  have b2 : (c.toNat : Int) ≤ 237 := by have := c.toNat_lt; omega
  have HA := hide hA
  have HL := hide hl
  clear hA hl hc h
  cases q1 : Plain.inR l (i + 1) 128 159
  · go_enter Try.func31, Try.ntmps31
    go_wp2_with fail
    refine (in_any g o n cap l (unhide HL) hn hcap (i + 1) 128 159 _ _ _ (by omega) rfl rfl (by omega) _ (unhide HA)).mono ?_
    rintro e w1 ⟨rfl, rfl⟩
    rw [q1]
    go_wp2_with fail
    go_ret
    exact ⟨rfl, rfl⟩
  · skip
    cases q2 : Plain.inR l (i + 2) 128 191
    · go_enter Try.func31, Try.ntmps31
      go_wp2_with fail
      refine (in_any g o n cap l (unhide HL) hn hcap (i + 1) 128 159 _ _ _ (by omega) rfl rfl (by omega) _ (unhide HA)).mono ?_
      rintro e w1 ⟨rfl, rfl⟩
      rw [q1]
      go_wp2_with fail
      refine (in_any g o n cap l (unhide HL) hn hcap (i + 2) 128 191 _ _ _ (by omega) rfl rfl (by omega) _ (unhide HA)).mono ?_
      rintro e w1 ⟨rfl, rfl⟩
      rw [q2]
      go_wp2_with fail
      go_ret
      exact ⟨rfl, rfl⟩
    · go_enter Try.func31, Try.ntmps31
      go_wp2_with fail
      refine (in_any g o n cap l (unhide HL) hn hcap (i + 1) 128 159 _ _ _ (by omega) rfl rfl (by omega) _ (unhide HA)).mono ?_
      rintro e w1 ⟨rfl, rfl⟩
      rw [q1]
      go_wp2_with fail
      refine (in_any g o n cap l (unhide HL) hn hcap (i + 2) 128 191 _ _ _ (by omega) rfl rfl (by omega) _ (unhide HA)).mono ?_
      rintro e w1 ⟨rfl, rfl⟩
      rw [q2]
      go_wp2_with fail
      go_ret
      exact ⟨rfl, rfl⟩

set_option maxHeartbeats 1600000 in
set_option maxRecDepth 100000 in
theorem val_e1 (g o n cap : Nat) (l : List UInt8) (hl : l.length = n) (hn : n ≤ 1048576) (hcap : n ≤ cap) (i : Nat) (hi : i < n) (w : World) (hA : At w g o l) (c : UInt8) (hcell : w.cell? ⟨g, o + i, none⟩ = some (.int .u8 c.toNat)) (hc : l.getD i 0 = c) (h : 225 ≤ c.toNat ∧ c.toNat ≤ 236) :
    Calls Try.prog 31 #[.slice (some ⟨g, o, none⟩) n cap, .int .i64 i] w fun e w' => e = .returned (.int .i64 (Plain.vlen l i)) ∧ w = w' := by
  rw [vl_e1 hc h]
  have t1 : ((c.toNat : Int) == 224) = false := by exact beq_eq_false_iff_ne.2 (by omega)
  have t2 : ((c.toNat : Int) == 237) = false := by exact beq_eq_false_iff_ne.2 (by omega)
  have t3 : ((c.toNat : Int) == 240) = false := by exact beq_eq_false_iff_ne.2 (by omega)
  have t4 : ((c.toNat : Int) == 244) = false := by exact beq_eq_false_iff_ne.2 (by omega)
  have b0 : 128 ≤ (c.toNat : Int) := by omega
  have b1 : 225 ≤ (c.toNat : Int) := by omega
  have b2 : (c.toNat : Int) ≤ 236 := by have := c.toNat_lt; omega
  have HA := hide hA
  have HL := hide hl
  clear hA hl hc h
  cases q1 : Plain.inR l (i + 1) 128 191
  · go_enter Try.func31, Try.ntmps31
    go_wp2_with fail
    refine (in_any g o n cap l (unhide HL) hn hcap (i + 1) 128 191 _ _ _ (by omega) rfl rfl (by omega) _ (unhide HA)).mono ?_
    rintro e w1 ⟨rfl, rfl⟩
    rw [q1]
    go_wp2_with fail
    go_ret
    exact ⟨rfl, rfl⟩
  · skip
    cases q2 : Plain.inR l (i + 2) 128 191
    · go_enter Try.func31, Try.ntmps31
      go_wp2_with fail
      refine (in_any g o n cap l (unhide HL) hn hcap (i + 1) 128 191 _ _ _ (by omega) rfl rfl (by omega) _ (unhide HA)).mono ?_
      rintro e w1 ⟨rfl, rfl⟩
      rw [q1]
      go_wp2_with fail
      refine (in_any g o n cap l (unhide HL) hn hcap (i + 2) 128 191 _ _ _ (by omega) rfl rfl (by omega) _ (unhide HA)).mono ?_
      rintro e w1 ⟨rfl, rfl⟩
      rw [q2]
      go_wp2_with fail
      go_ret
      exact ⟨rfl, rfl⟩
    · go_enter Try.func31, Try.ntmps31
      go_wp2_with fail
      refine (in_any g o n cap l (unhide HL) hn hcap (i + 1) 128 191 _ _ _ (by omega) rfl rfl (by omega) _ (unhide HA)).mono ?_
      rintro e w1 ⟨rfl, rfl⟩
      rw [q1]
      go_wp2_with fail
      refine (in_any g o n cap l (unhide HL) hn hcap (i + 2) 128 191 _ _ _ (by omega) rfl rfl (by omega) _ (unhide HA)).mono ?_
      rintro e w1 ⟨rfl, rfl⟩
      rw [q2]
      go_wp2_with fail
      go_ret
      exact ⟨rfl, rfl⟩

set_option maxHeartbeats 1600000 in
set_option maxRecDepth 100000 in
theorem val_e2 (g o n cap : Nat) (l : List UInt8) (hl : l.length = n) (hn : n ≤ 1048576) (hcap : n ≤ cap) (i : Nat) (hi : i < n) (w : World) (hA : At w g o l) (c : UInt8) (hcell : w.cell? ⟨g, o + i, none⟩ = some (.int .u8 c.toNat)) (hc : l.getD i 0 = c) (h : 238 ≤ c.toNat ∧ c.toNat ≤ 239) :
    Calls Try.prog 31 #[.slice (some ⟨g, o, none⟩) n cap, .int .i64 i] w fun e w' => e = .returned (.int .i64 (Plain.vlen l i)) ∧ w = w' := by
  rw [vl_e2 hc h]
  have t1 : ((c.toNat : Int) == 224) = false := by exact beq_eq_false_iff_ne.2 (by omega)
  have t2 : ((c.toNat : Int) == 237) = false := by exact beq_eq_false_iff_ne.2 (by omega)
  have t3 : ((c.toNat : Int) == 240) = false := by exact beq_eq_false_iff_ne.2 (by omega)
  have t4 : ((c.toNat : Int) == 244) = false := by exact beq_eq_false_iff_ne.2 (by omega)
  have b0 : 128 ≤ (c.toNat : Int) := by omega
  have b1 : 238 ≤ (c.toNat : Int) := by omega
  have b2 : (c.toNat : Int) ≤ 239 := by have := c.toNat_lt; omega
  have HA := hide hA
  have HL := hide hl
  clear hA hl hc h
  cases q1 : Plain.inR l (i + 1) 128 191
  · go_enter Try.func31, Try.ntmps31
    go_wp2_with fail
    refine (in_any g o n cap l (unhide HL) hn hcap (i + 1) 128 191 _ _ _ (by omega) rfl rfl (by omega) _ (unhide HA)).mono ?_
    rintro e w1 ⟨rfl, rfl⟩
    rw [q1]
    go_wp2_with fail
    go_ret
    exact ⟨rfl, rfl⟩
  · skip
    cases q2 : Plain.inR l (i + 2) 128 191
    · go_enter Try.func31, Try.ntmps31
      go_wp2_with fail
      refine (in_any g o n cap l (unhide HL) hn hcap (i + 1) 128 191 _ _ _ (by omega) rfl rfl (by omega) _ (unhide HA)).mono ?_
      rintro e w1 ⟨rfl, rfl⟩
      rw [q1]
      go_wp2_with fail
      refine (in_any g o n cap l (unhide HL) hn hcap (i + 2) 128 191 _ _ _ (by omega) rfl rfl (by omega) _ (unhide HA)).mono ?_
      rintro e w1 ⟨rfl, rfl⟩
      rw [q2]
      go_wp2_with fail
      go_ret
      exact ⟨rfl, rfl⟩
    · go_enter Try.func31, Try.ntmps31
      go_wp2_with fail
      refine (in_any g o n cap l (unhide HL) hn hcap (i + 1) 128 191 _ _ _ (by omega) rfl rfl (by omega) _ (unhide HA)).mono ?_
      rintro e w1 ⟨rfl, rfl⟩
      rw [q1]
      go_wp2_with fail
      refine (in_any g o n cap l (unhide HL) hn hcap (i + 2) 128 191 _ _ _ (by omega) rfl rfl (by omega) _ (unhide HA)).mono ?_
      rintro e w1 ⟨rfl, rfl⟩
      rw [q2]
      go_wp2_with fail
      go_ret
      exact ⟨rfl, rfl⟩

set_option maxHeartbeats 1600000 in
set_option maxRecDepth 100000 in
theorem val_f0 (g o n cap : Nat) (l : List UInt8) (hl : l.length = n) (hn : n ≤ 1048576) (hcap : n ≤ cap) (i : Nat) (hi : i < n) (w : World) (hA : At w g o l) (c : UInt8) (hcell : w.cell? ⟨g, o + i, none⟩ = some (.int .u8 c.toNat)) (hc : l.getD i 0 = c) (h : c.toNat = 240) :
    Calls Try.prog 31 #[.slice (some ⟨g, o, none⟩) n cap, .int .i64 i] w fun e w' => e = .returned (.int .i64 (Plain.vlen l i)) ∧ w = w' := by
  rw [vl_f0 hc h]
  have t1 : ((c.toNat : Int) == 224) = false := by exact beq_eq_false_iff_ne.2 (by omega)
  have t2 : ((c.toNat : Int) == 237) = false := by exact beq_eq_false_iff_ne.2 (by omega)
  have t3 : ((c.toNat : Int) == 240) = true := by rw [beq_iff_eq]; omega
  have t4 : ((c.toNat : Int) == 244) = false := by exact beq_eq_false_iff_ne.2 (by omega)
  have b0 : 128 ≤ (c.toNat : Int) := by omega
  have b1 : 240 ≤ (c.toNat : Int) := by omega
  have b2 : (c.toNat : Int) ≤ 240 := by have := c.toNat_lt; omega
  have HA := hide hA
  have HL := hide hl
  clear hA hl hc h
  cases q1 : Plain.inR l (i + 1) 144 191
  · go_enter Try.func31, Try.ntmps31
    go_wp2_with fail
    refine (in_any g o n cap l (unhide HL) hn hcap (i + 1) 144 191 _ _ _ (by omega) rfl rfl (by omega) _ (unhide HA)).mono ?_
    rintro e w1 ⟨rfl, rfl⟩
    rw [q1]
    go_wp2_with fail
    go_ret
    exact ⟨rfl, rfl⟩
  · skip
    cases q2 : Plain.inR l (i + 2) 128 191
    · go_enter Try.func31, Try.ntmps31
      go_wp2_with fail
      refine (in_any g o n cap l (unhide HL) hn hcap (i + 1) 144 191 _ _ _ (by omega) rfl rfl (by omega) _ (unhide HA)).mono ?_
      rintro e w1 ⟨rfl, rfl⟩
      rw [q1]
      go_wp2_with fail
      refine (in_any g o n cap l (unhide HL) hn hcap (i + 2) 128 191 _ _ _ (by omega) rfl rfl (by omega) _ (unhide HA)).mono ?_
      rintro e w1 ⟨rfl, rfl⟩
      rw [q2]
      go_wp2_with fail
      go_ret
      exact ⟨rfl, rfl⟩
    · skip
      cases q3 : Plain.inR l (i + 3) 128 191
      · go_enter Try.func31, Try.ntmps31
        go_wp2_with fail
        refine (in_any g o n cap l (unhide HL) hn hcap (i + 1) 144 191 _ _ _ (by omega) rfl rfl (by omega) _ (unhide HA)).mono ?_
        rintro e w1 ⟨rfl, rfl⟩
        rw [q1]
        go_wp2_with fail
        refine (in_any g o n cap l (unhide HL) hn hcap (i + 2) 128 191 _ _ _ (by omega) rfl rfl (by omega) _ (unhide HA)).mono ?_
        rintro e w1 ⟨rfl, rfl⟩
        rw [q2]
        go_wp2_with fail
        refine (in_any g o n cap l (unhide HL) hn hcap (i + 3) 128 191 _ _ _ (by omega) rfl rfl (by omega) _ (unhide HA)).mono ?_
        rintro e w1 ⟨rfl, rfl⟩
        rw [q3]
        go_wp2_with fail
        go_ret
        exact ⟨rfl, rfl⟩
      · go_enter Try.func31, Try.ntmps31
        go_wp2_with fail
        refine (in_any g o n cap l (unhide HL) hn hcap (i + 1) 144 191 _ _ _ (by omega) rfl rfl (by omega) _ (unhide HA)).mono ?_
        rintro e w1 ⟨rfl, rfl⟩
        rw [q1]
        go_wp2_with fail
        refine (in_any g o n cap l (unhide HL) hn hcap (i + 2) 128 191 _ _ _ (by omega) rfl rfl (by omega) _ (unhide HA)).mono ?_
        rintro e w1 ⟨rfl, rfl⟩
        rw [q2]
        go_wp2_with fail
        refine (in_any g o n cap l (unhide HL) hn hcap (i + 3) 128 191 _ _ _ (by omega) rfl rfl (by omega) _ (unhide HA)).mono ?_
        rintro e w1 ⟨rfl, rfl⟩
        rw [q3]
        go_wp2_with fail
        go_ret
        exact ⟨rfl, rfl⟩

set_option maxHeartbeats 1600000 in
set_option maxRecDepth 100000 in
theorem val_f1 (g o n cap : Nat) (l : List UInt8) (hl : l.length = n) (hn : n ≤ 1048576) (hcap : n ≤ cap) (i : Nat) (hi : i < n) (w : World) (hA : At w g o l) (c : UInt8) (hcell : w.cell? ⟨g, o + i, none⟩ = some (.int .u8 c.toNat)) (hc : l.getD i 0 = c) (h : 241 ≤ c.toNat ∧ c.toNat ≤ 243) :
    Calls Try.prog 31 #[.slice (some ⟨g, o, none⟩) n cap, .int .i64 i] w fun e w' => e = .returned (.int .i64 (Plain.vlen l i)) ∧ w = w' := by
  rw [vl_f1 hc h]
  have t1 : ((c.toNat : Int) == 224) = false := by exact beq_eq_false_iff_ne.2 (by omega)
  have t2 : ((c.toNat : Int) == 237) = false := by exact beq_eq_false_iff_ne.2 (by omega)
  have t3 : ((c.toNat : Int) == 240) = false := by exact beq_eq_false_iff_ne.2 (by omega)
  have t4 : ((c.toNat : Int) == 244) = false := by exact beq_eq_false_iff_ne.2 (by omega)
  have b0 : 128 ≤ (c.toNat : Int) := by omega
  have b1 : 241 ≤ (c.toNat : Int) := by omega
  have b2 : (c.toNat : Int) ≤ 243 := by have := c.toNat_lt; omega
  have HA := hide hA
  have HL := hide hl
  clear hA hl hc h
  cases q1 : Plain.inR l (i + 1) 128 191
  · go_enter Try.func31, Try.ntmps31
    go_wp2_with fail
    refine (in_any g o n cap l (unhide HL) hn hcap (i + 1) 128 191 _ _ _ (by omega) rfl rfl (by omega) _ (unhide HA)).mono ?_
    rintro e w1 ⟨rfl, rfl⟩
    rw [q1]
    go_wp2_with fail
    go_ret
    exact ⟨rfl, rfl⟩
  · skip
    cases q2 : Plain.inR l (i + 2) 128 191
    · go_enter Try.func31, Try.ntmps31
      go_wp2_with fail
      refine (in_any g o n cap l (unhide HL) hn hcap (i + 1) 128 191 _ _ _ (by omega) rfl rfl (by omega) _ (unhide HA)).mono ?_
      rintro e w1 ⟨rfl, rfl⟩
      rw [q1]
      go_wp2_with fail
      refine (in_any g o n cap l (unhide HL) hn hcap (i + 2) 128 191 _ _ _ (by omega) rfl rfl (by omega) _ (unhide HA)).mono ?_
      rintro e w1 ⟨rfl, rfl⟩
      rw [q2]
      go_wp2_with fail
      go_ret
      exact ⟨rfl, rfl⟩
    · skip
      cases q3 : Plain.inR l (i + 3) 128 191
      · go_enter Try.func31, Try.ntmps31
        go_wp2_with fail
        refine (in_any g o n cap l (unhide HL) hn hcap (i + 1) 128 191 _ _ _ (by omega) rfl rfl (by omega) _ (unhide HA)).mono ?_
        rintro e w1 ⟨rfl, rfl⟩
        rw [q1]
        go_wp2_with fail
        refine (in_any g o n cap l (unhide HL) hn hcap (i + 2) 128 191 _ _ _ (by omega) rfl rfl (by omega) _ (unhide HA)).mono ?_
        rintro e w1 ⟨rfl, rfl⟩
        rw [q2]
        go_wp2_with fail
        refine (in_any g o n cap l (unhide HL) hn hcap (i + 3) 128 191 _ _ _ (by omega) rfl rfl (by omega) _ (unhide HA)).mono ?_
        rintro e w1 ⟨rfl, rfl⟩
        rw [q3]
        go_wp2_with fail
        go_ret
        exact ⟨rfl, rfl⟩
      · go_enter Try.func31, Try.ntmps31
        go_wp2_with fail
        refine (in_any g o n cap l (unhide HL) hn hcap (i + 1) 128 191 _ _ _ (by omega) rfl rfl (by omega) _ (unhide HA)).mono ?_
        rintro e w1 ⟨rfl, rfl⟩
        rw [q1]
        go_wp2_with fail
        refine (in_any g o n cap l (unhide HL) hn hcap (i + 2) 128 191 _ _ _ (by omega) rfl rfl (by omega) _ (unhide HA)).mono ?_
        rintro e w1 ⟨rfl, rfl⟩
        rw [q2]
        go_wp2_with fail
        refine (in_any g o n cap l (unhide HL) hn hcap (i + 3) 128 191 _ _ _ (by omega) rfl rfl (by omega) _ (unhide HA)).mono ?_
        rintro e w1 ⟨rfl, rfl⟩
        rw [q3]
        go_wp2_with fail
        go_ret
        exact ⟨rfl, rfl⟩

set_option maxHeartbeats 1600000 in
set_option maxRecDepth 100000 in
theorem val_f4 (g o n cap : Nat) (l : List UInt8) (hl : l.length = n) (hn : n ≤ 1048576) (hcap : n ≤ cap) (i : Nat) (hi : i < n) (w : World) (hA : At w g o l) (c : UInt8) (hcell : w.cell? ⟨g, o + i, none⟩ = some (.int .u8 c.toNat)) (hc : l.getD i 0 = c) (h : c.toNat = 244) :
    Calls Try.prog 31 #[.slice (some ⟨g, o, none⟩) n cap, .int .i64 i] w fun e w' => e = .returned (.int .i64 (Plain.vlen l i)) ∧ w = w' := by
  rw [vl_f4 hc h]
  have t1 : ((c.toNat : Int) == 224) = false := by exact beq_eq_false_iff_ne.2 (by omega)
  have t2 : ((c.toNat : Int) == 237) = false := by exact beq_eq_false_iff_ne.2 (by omega)
  have t3 : ((c.toNat : Int) == 240) = false := by exact beq_eq_false_iff_ne.2 (by omega)
  have t4 : ((c.toNat : Int) == 244) = true := by rw [beq_iff_eq]; omega
  have b0 : 128 ≤ (c.toNat : Int) := by omega
  have b1 : 244 ≤ (c.toNat : Int) := by omega
  have b2 : (c.toNat : Int) ≤ 244 := by have := c.toNat_lt; omega
  have HA := hide hA
  have HL := hide hl
  clear hA hl hc h
  cases q1 : Plain.inR l (i + 1) 128 143
  · go_enter Try.func31, Try.ntmps31
    go_wp2_with fail
    refine (in_any g o n cap l (unhide HL) hn hcap (i + 1) 128 143 _ _ _ (by omega) rfl rfl (by omega) _ (unhide HA)).mono ?_
    rintro e w1 ⟨rfl, rfl⟩
    rw [q1]
    go_wp2_with fail
    go_ret
    exact ⟨rfl, rfl⟩
  · skip
    cases q2 : Plain.inR l (i + 2) 128 191
    · go_enter Try.func31, Try.ntmps31
      go_wp2_with fail
      refine (in_any g o n cap l (unhide HL) hn hcap (i + 1) 128 143 _ _ _ (by omega) rfl rfl (by omega) _ (unhide HA)).mono ?_
      rintro e w1 ⟨rfl, rfl⟩
      rw [q1]
      go_wp2_with fail
      refine (in_any g o n cap l (unhide HL) hn hcap (i + 2) 128 191 _ _ _ (by omega) rfl rfl (by omega) _ (unhide HA)).mono ?_
      rintro e w1 ⟨rfl, rfl⟩
      rw [q2]
      go_wp2_with fail
      go_ret
      exact ⟨rfl, rfl⟩
    · skip
      cases q3 : Plain.inR l (i + 3) 128 191
      · go_enter Try.func31, Try.ntmps31
        go_wp2_with fail
        refine (in_any g o n cap l (unhide HL) hn hcap (i + 1) 128 143 _ _ _ (by omega) rfl rfl (by omega) _ (unhide HA)).mono ?_
        rintro e w1 ⟨rfl, rfl⟩
        rw [q1]
        go_wp2_with fail
        refine (in_any g o n cap l (unhide HL) hn hcap (i + 2) 128 191 _ _ _ (by omega) rfl rfl (by omega) _ (unhide HA)).mono ?_
        rintro e w1 ⟨rfl, rfl⟩
        rw [q2]
        go_wp2_with fail
        refine (in_any g o n cap l (unhide HL) hn hcap (i + 3) 128 191 _ _ _ (by omega) rfl rfl (by omega) _ (unhide HA)).mono ?_
        rintro e w1 ⟨rfl, rfl⟩
        rw [q3]
        go_wp2_with fail
        go_ret
        exact ⟨rfl, rfl⟩
      · go_enter Try.func31, Try.ntmps31
        go_wp2_with fail
        refine (in_any g o n cap l (unhide HL) hn hcap (i + 1) 128 143 _ _ _ (by omega) rfl rfl (by omega) _ (unhide HA)).mono ?_
        rintro e w1 ⟨rfl, rfl⟩
        rw [q1]
        go_wp2_with fail
        refine (in_any g o n cap l (unhide HL) hn hcap (i + 2) 128 191 _ _ _ (by omega) rfl rfl (by omega) _ (unhide HA)).mono ?_
        rintro e w1 ⟨rfl, rfl⟩
        rw [q2]
        go_wp2_with fail
        refine (in_any g o n cap l (unhide HL) hn hcap (i + 3) 128 191 _ _ _ (by omega) rfl rfl (by omega) _ (unhide HA)).mono ?_
        rintro e w1 ⟨rfl, rfl⟩
        rw [q3]
        go_wp2_with fail
        go_ret
        exact ⟨rfl, rfl⟩

set_option maxHeartbeats 1600000 in
set_option maxRecDepth 100000 in
theorem val_hi (g o n cap : Nat) (l : List UInt8) (hl : l.length = n) (hn : n ≤ 1048576) (hcap : n ≤ cap) (i : Nat) (hi : i < n) (w : World) (hA : At w g o l) (c : UInt8) (hcell : w.cell? ⟨g, o + i, none⟩ = some (.int .u8 c.toNat)) (hc : l.getD i 0 = c) (h : 245 ≤ c.toNat) :
    Calls Try.prog 31 #[.slice (some ⟨g, o, none⟩) n cap, .int .i64 i] w fun e w' => e = .returned (.int .i64 (Plain.vlen l i)) ∧ w = w' := by
  rw [vl_hi hc h]
  have t1 : ((c.toNat : Int) == 224) = false := by exact beq_eq_false_iff_ne.2 (by omega)
  have t2 : ((c.toNat : Int) == 237) = false := by exact beq_eq_false_iff_ne.2 (by omega)
  have t3 : ((c.toNat : Int) == 240) = false := by exact beq_eq_false_iff_ne.2 (by omega)
  have t4 : ((c.toNat : Int) == 244) = false := by exact beq_eq_false_iff_ne.2 (by omega)
  have b0 : 128 ≤ (c.toNat : Int) := by omega
  have b1 : 245 ≤ (c.toNat : Int) := by omega
  have b2 : (c.toNat : Int) ≤ 255 := by have := c.toNat_lt; omega
  have HA := hide hA
  have HL := hide hl
  clear hA hl hc h
  go_enter Try.func31, Try.ntmps31
  go_wp2
  go_ret
  exact ⟨rfl, rfl⟩

/-- zzValidLen, wherever it is asked. -/
theorem val_any (g o n cap : Nat) (l : List UInt8) (hl : l.length = n) (hn : n ≤ 1048576) (hcap : n ≤ cap) (i : Nat) (hi : i < n) (w : World) (hA : At w g o l) :
    Calls Try.prog 31 #[.slice (some ⟨g, o, none⟩) n cap, .int .i64 i] w fun e w' => e = .returned (.int .i64 (Plain.vlen l i)) ∧ w = w' := by
  have hi' : i < l.length := by omega
  have hcell := hA i hi'
  have hc := getD_at hi'
  generalize l[i] = c at hcell hc
  by_cases h_a : c.toNat < 128
  · exact val_a g o n cap l hl hn hcap i hi w hA c hcell hc h_a
  by_cases h_lo : 128 ≤ c.toNat ∧ c.toNat ≤ 193
  · exact val_lo g o n cap l hl hn hcap i hi w hA c hcell hc h_lo
  by_cases h_b : 194 ≤ c.toNat ∧ c.toNat ≤ 223
  · exact val_b g o n cap l hl hn hcap i hi w hA c hcell hc h_b
  by_cases h_e0 : c.toNat = 224
  · exact val_e0 g o n cap l hl hn hcap i hi w hA c hcell hc h_e0
  by_cases h_ed : c.toNat = 237
  · exact val_ed g o n cap l hl hn hcap i hi w hA c hcell hc h_ed
  by_cases h_e1 : 225 ≤ c.toNat ∧ c.toNat ≤ 236
  · exact val_e1 g o n cap l hl hn hcap i hi w hA c hcell hc h_e1
  by_cases h_e2 : 238 ≤ c.toNat ∧ c.toNat ≤ 239
  · exact val_e2 g o n cap l hl hn hcap i hi w hA c hcell hc h_e2
  by_cases h_f0 : c.toNat = 240
  · exact val_f0 g o n cap l hl hn hcap i hi w hA c hcell hc h_f0
  by_cases h_f1 : 241 ≤ c.toNat ∧ c.toNat ≤ 243
  · exact val_f1 g o n cap l hl hn hcap i hi w hA c hcell hc h_f1
  by_cases h_f4 : c.toNat = 244
  · exact val_f4 g o n cap l hl hn hcap i hi w hA c hcell hc h_f4
  exact val_hi g o n cap l hl hn hcap i hi w hA c hcell hc (by omega)
end Go.Proofs.Qxb6615701a
