/-
  ParseSeq (function 6), parsePositive (14), b1AllDigits (7), b1AllZeros (8): what they answer.
-/
import Derived.Test.Qxb6614506aDoorPos
namespace Go.Proofs.Qxb6614506aDoor
open Go.Shelf Go.RowKit

/-- What the three variables hold: interface values; the first is not nil. -/
structure Vars (w : World) (T0 : TypeId) (p0 e1 e2 : Value) : Prop where
  c0 : w.cell? ⟨0, 0, none⟩ = some (.iface T0 p0)
  c1 : w.cell? ⟨1, 0, none⟩ = some e1
  i1 : e1 = .nilIface ∨ ∃ te pe, e1 = .iface te pe
  c2 : w.cell? ⟨2, 0, none⟩ = some e2
  i2 : e2 = .nilIface ∨ ∃ te pe, e2 = .iface te pe

theorem Vars.below {w w' : World} {T0 : TypeId} {p0 e1 e2 : Value} (h : Vars w T0 p0 e1 e2) (hb : Below w.heap.size w w') : Vars w' T0 p0 e1 e2 :=
  ⟨(hb.cell (p := ⟨0, 0, none⟩) (Lib.lt_of_cell h.c0)).trans h.c0, (hb.cell (p := ⟨1, 0, none⟩) (Lib.lt_of_cell h.c1)).trans h.c1, h.i1, (hb.cell (p := ⟨2, 0, none⟩) (Lib.lt_of_cell h.c2)).trans h.c2, h.i2⟩

set_option maxHeartbeats 400000 in
theorem pos_some (s : ByteArray) (hlim : s.size ≤ 281474976710656) (n : Nat) (h : Plain.parseL s.data.toList = some n) (w : World) :
    Calls Tryd.prog 14 #[.string s] w fun e w' => e = .returned (.tuple #[.int .u64 n, .nilIface]) ∧ Below w.heap.size w w' := by
  obtain ⟨hu, hn0⟩ : Lib.parseUintB 63 s.data.toList = .ok n ∧ ((n : Int) == 0) = false := by
    cases hh : Lib.parseUintB 63 s.data.toList with
    | ok u =>
      by_cases hu : u = 0
      · subst hu; rw [Plain.parseL_zero hh] at h; cases h
      · rw [Plain.parseL_ok hh hu] at h; cases h; exact ⟨rfl, beq_eq_false_iff_ne.2 (by omega)⟩
    | _ => rw [Plain.parseL_bad (by intro u; rw [hh]; intro e; cases e)] at h; cases h
  have H := hide (parseUint_ok s hlim n hu w)
  clear h hu
  go_enter Tryd.func14, Tryd.ntmps14
  go_wp2_with (go_at_call 16; refine (unhide H).mono ?_; rintro e W1 ⟨rfl, hb⟩)
  go_wp2
  go_ret2
  exact ⟨rfl, hb⟩

set_option maxHeartbeats 400000 in
theorem pos_none (s : ByteArray) (hlim : s.size ≤ 281474976710656) (h : Plain.parseL s.data.toList = none) (T0 : TypeId) (p0 e1 e2 : Value) (w : World) (hv : Vars w T0 p0 e1 e2) :
    Calls Tryd.prog 14 #[.string s] w fun e w' => e = .returned (.tuple #[.int .u64 0, .iface T0 p0]) ∧ Below w.heap.size w w' := by
  by_cases hz : Lib.parseUintB 63 s.data.toList = .ok 0
  · have H := hide (parseUint_ok s hlim 0 hz w)
    clear hz h
    go_enter Tryd.func14, Tryd.ntmps14
    go_wp2_with (go_at_call 16; refine (unhide H).mono ?_; rintro e W1 ⟨rfl, hb⟩)
    have hc := (hv.below hb).c0
    clear hv
    go_wp2
    go_quiet (fail)
    go_wp2
    go_ret2
    exact ⟨rfl, below_drewN hb _⟩
  · have hb : ∀ u, Lib.parseUintB 63 s.data.toList ≠ .ok u := by
      intro u hu
      by_cases h0 : u = 0
      · subst h0; exact hz hu
      · rw [Plain.parseL_ok hu h0] at h; cases h
    have H := hide (parseUint_bad s hlim hb e1 e2 w hv.c1 hv.i1 hv.c2 hv.i2)
    clear hz h hb
    go_enter Tryd.func14, Tryd.ntmps14
    go_wp2_with (go_at_call 16; refine (unhide H).mono ?_; rintro e W1 ⟨x, N, rfl, hb⟩)
    have hc := (hv.below hb).c0
    clear hv
    go_wp2
    go_quiet (fail)
    go_wp2
    go_ret2
    exact ⟨rfl, below_drewN hb _⟩

theorem seq_some (s : ByteArray) (hlim : s.size ≤ 281474976710656) (n : Nat) (h : Plain.parseL s.data.toList = some n) (w : World) :
    Calls Tryd.prog 6 #[.string s] w fun e w' => e = .returned (.tuple #[.int .u64 n, .nilIface]) ∧ Below w.heap.size w w' := by
  have H := hide (pos_some s hlim n h w)
  clear h
  go_enter Tryd.func6, Tryd.ntmps6
  go_wp2_with (go_at_call 14; refine (unhide H).mono ?_; rintro e W1 ⟨rfl, hb⟩)
  go_wp2
  go_ret2
  exact ⟨rfl, hb⟩

theorem seq_none (s : ByteArray) (hlim : s.size ≤ 281474976710656) (h : Plain.parseL s.data.toList = none) (T0 : TypeId) (p0 e1 e2 : Value) (w : World) (hv : Vars w T0 p0 e1 e2) :
    Calls Tryd.prog 6 #[.string s] w fun e w' => e = .returned (.tuple #[.int .u64 0, .iface T0 p0]) ∧ Below w.heap.size w w' := by
  have H := hide (pos_none s hlim h T0 p0 e1 e2 w hv)
  clear h hv
  go_enter Tryd.func6, Tryd.ntmps6
  go_wp2_with (go_at_call 14; refine (unhide H).mono ?_; rintro e W1 ⟨rfl, hb⟩)
  go_wp2
  go_ret2
  exact ⟨rfl, hb⟩

theorem take_snoc (s : ByteArray) (k : Nat) (h : k < s.size) : s.data.toList.take (k + 1) = s.data.toList.take k ++ [s[k]] := by
  rw [List.take_succ_eq_append_getElem (by simpa using h)]; rfl

theorem split_at (s : ByteArray) (k : Nat) (h : k < s.size) : s.data.toList = s.data.toList.take k ++ s[k] :: s.data.toList.drop (k + 1) := by
  have : s.data.toList.drop k = s[k] :: s.data.toList.drop (k + 1) := List.drop_eq_getElem_cons (by simpa using h)
  rw [← this, List.take_append_drop]

theorem allDig_take (s : ByteArray) (k : Nat) (h : k < s.size) (ht : Plain.allDig (s.data.toList.take k) = true) (hc : 48 ≤ (s[k].toNat : Int)) (hc' : (s[k].toNat : Int) ≤ 57) : Plain.allDig (s.data.toList.take (k + 1)) = true := by
  rw [take_snoc s k h, Plain.allDig_snoc, ht, (Plain.digB_iff _).2 (by omega)]; rfl

theorem allDig_no (s : ByteArray) (k : Nat) (h : k < s.size) (hc : (s[k].toNat : Int) < 48 ∨ 57 < (s[k].toNat : Int)) : Plain.allDig s.data.toList = false := by
  cases hd : Plain.allDig s.data.toList
  · rfl
  · rw [split_at s k h] at hd
    simp only [Plain.allDig, List.all_append, List.all_cons, Bool.and_eq_true] at hd
    have := (Plain.digB_iff _).1 hd.2.1
    omega

theorem allZer_take (s : ByteArray) (k : Nat) (h : k < s.size) (ht : Plain.allZer (s.data.toList.take k) = true) (hc : (s[k].toNat : Int) = 48) : Plain.allZer (s.data.toList.take (k + 1)) = true := by
  have e : s[k].toNat = 48 := by omega
  rw [take_snoc s k h]
  simp only [Plain.allZer, List.all_append, List.all_cons, List.all_nil, Bool.and_true, Bool.and_eq_true, decide_eq_true_eq]
  exact ⟨ht, e⟩

theorem allZer_no (s : ByteArray) (k : Nat) (h : k < s.size) (hc : (s[k].toNat : Int) ≠ 48) : Plain.allZer s.data.toList = false := by
  cases hd : Plain.allZer s.data.toList
  · rfl
  · rw [split_at s k h] at hd
    simp only [Plain.allZer, List.all_append, List.all_cons, Bool.and_eq_true, decide_eq_true_eq] at hd
    omega

theorem ret_bool {a b : Bool} (h : a = b) : Ending.returned (.bool a) = .returned (.bool b) := by rw [h]

set_option maxHeartbeats 400000 in
theorem digits_any (s : ByteArray) (w : World) (hs : s.size ≤ 281474976710656) :
    Calls Tryd.prog 7 #[.string s] w fun e w' => e = .returned (.bool (Plain.allDig s.data.toList)) ∧ w' = w := by
  go_enter Tryd.func7, Tryd.ntmps7
  go_wp2
  go_loop [3] (fun i => ∃ k : Nat, k ≤ s.size ∧ i = .int .i64 k ∧ Hid (Plain.allDig (s.data.toList.take k) = true)) (fun i => s.size - (intOf i).toNat)
  case atStart => exact ⟨0, Nat.zero_le _, rfl, rfl⟩
  case round =>
    obtain ⟨k, hk, rfl, ht⟩ := hrel
    by_cases hlt : k < s.size
    · by_cases h1 : (s[k].toNat : Int) < 48
      · go_wp2
        go_ret
        exact ⟨ret_bool (allDig_no s k hlt (.inl h1)).symm, rfl⟩
      · by_cases h2 : 57 < (s[k].toNat : Int)
        · go_wp2
          go_ret
          exact ⟨ret_bool (allDig_no s k hlt (.inr h2)).symm, rfl⟩
        · go_wp2
          go_round
          case rel => exact ⟨k + 1, by omega, by go_num, allDig_take s k hlt ht.out (by omega) (by omega)⟩
          case measure => simp [intOf]; omega
    · go_wp2
      go_ret
      refine ⟨ret_bool ?_, rfl⟩
      have := ht.out
      rw [List.take_of_length_le (by simp; omega)] at this
      exact this.symm

set_option maxHeartbeats 400000 in
theorem zeros_any (s : ByteArray) (w : World) (hs : s.size ≤ 281474976710656) :
    Calls Tryd.prog 8 #[.string s] w fun e w' => e = .returned (.bool (Plain.allZer s.data.toList)) ∧ w' = w := by
  go_enter Tryd.func8, Tryd.ntmps8
  go_wp2
  go_loop [3] (fun i => ∃ k : Nat, k ≤ s.size ∧ i = .int .i64 k ∧ Hid (Plain.allZer (s.data.toList.take k) = true)) (fun i => s.size - (intOf i).toNat)
  case atStart => exact ⟨0, Nat.zero_le _, rfl, rfl⟩
  case round =>
    obtain ⟨k, hk, rfl, ht⟩ := hrel
    by_cases hlt : k < s.size
    · by_cases h1 : (s[k].toNat : Int) = 48
      · have h2 := allZer_take s k hlt ht.out h1
        have H2 := hide h2
        have h1' : ((s[k].toNat : Int) != 48) = false := by rw [bne_eq_false_iff_eq]; exact h1
        clear h1 h2
        go_wp2
        go_round
        case rel => exact ⟨k + 1, by omega, by go_num, H2⟩
        case measure => simp [intOf]; omega
      · have h2 := hide (allZer_no s k hlt h1)
        have h1' : ((s[k].toNat : Int) != 48) = true := by rw [bne_iff_ne]; exact h1
        go_wp2
        go_ret
        exact ⟨ret_bool (unhide h2).symm, rfl⟩
    · go_wp2
      go_ret
      refine ⟨ret_bool ?_, rfl⟩
      have := ht.out
      rw [List.take_of_length_le (by simp; omega)] at this
      exact this.symm
end Go.Proofs.Qxb6614506aDoor
