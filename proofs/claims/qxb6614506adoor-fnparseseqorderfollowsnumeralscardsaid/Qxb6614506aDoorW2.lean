/-
  The walk of FnParseSeqOrderFollowsNumerals (function 4).
-/
import Derived.Test.Qxb6614506aDoorFits
import Derived.Outline
namespace Go.Proofs.Qxb6614506aDoor
open Go.Shelf Go.RowKit
set_option linter.unusedVariables false

set_option maxHeartbeats 400000 in
theorem w2_long (s t : ByteArray) (w : World) (hs : s.size ≤ maxLen) (ht : t.size ≤ maxLen) (hbig : 1048576 < s.size + t.size) :
    Calls Tryd.prog 4 #[.string s, .string t] w fun e w' => e = .returned (.bool true) ∧ Below w.heap.size w w' := by
  unfold maxLen at hs ht
  by_cases h1 : 1048576 < s.size
  · go_enter Tryd.func4, Tryd.ntmps4
    go_wp2
    go_ret
    exact ⟨rfl, Below.refl _ _⟩
  · by_cases h2 : 1048576 < t.size
    · go_enter Tryd.func4, Tryd.ntmps4
      go_wp2
      go_ret
      exact ⟨rfl, Below.refl _ _⟩
    · go_enter Tryd.func4, Tryd.ntmps4
      go_wp2
      go_ret
      exact ⟨rfl, Below.refl _ _⟩

/-- What ParseSeq and b1AnswerFits say at one string, wherever the three variables lie. -/
structure Says2 (T0 : TypeId) (p0 e1 e2 : Value) (s : ByteArray) (a : Int) (v : Value) (b : Bool) : Prop where
  seq : ∀ W, Vars W T0 p0 e1 e2 → Calls Tryd.prog 6 #[.string s] W fun e w' => e = .returned (.tuple #[.int .u64 a, v]) ∧ Below W.heap.size W w'
  fits : ∀ W, Calls Tryd.prog 10 #[.string s, .int .u64 a, .bool b] W fun e w' => e = .returned (.bool true) ∧ ∃ n, w' = W.drewN n

theorem below2 {w w1 w2 : World} (h1 : Below w.heap.size w w1) (h2 : Below w1.heap.size w1 w2) : Below w.heap.size w w2 := h1.trans (h2.mono h1.size)

set_option maxHeartbeats 400000 in
theorem w2_no1 (s t : ByteArray) (w : World) (hl : s.size + t.size ≤ 1048576) (T0 : TypeId) (p0 e1 e2 : Value) (hv : Vars w T0 p0 e1 e2) (b : Int) (v : Value) (bb : Bool) (hvb : (v = .nilIface ∧ bb = true) ∨ (v = .iface T0 p0 ∧ bb = false))
    (H1 : Says2 T0 p0 e1 e2 s 0 (.iface T0 p0) false) (H2 : Says2 T0 p0 e1 e2 t b v bb) :
    Calls Tryd.prog 4 #[.string s, .string t] w fun e w' => e = .returned (.bool true) ∧ Below w.heap.size w w' := by
  have HV := hide hv
  clear hv
  rcases hvb with ⟨rfl, rfl⟩ | ⟨rfl, rfl⟩
  all_goals
    go_enter Tryd.func4, Tryd.ntmps4
    go_wp2_with (go_at_call 9; go_in)
    refine (H1.seq _ (unhide HV)).mono ?_
    rintro e W1 ⟨rfl, hb1⟩
    go_wp2_with fail
    refine (H2.seq _ ((unhide HV).below hb1)).mono ?_
    rintro e W2 ⟨rfl, hb2⟩
    go_wp2_with fail
    refine (H1.fits _).mono ?_
    rintro e W3 ⟨rfl, n1, rfl⟩
    go_wp2_with fail
    refine (H2.fits _).mono ?_
    rintro e W4 ⟨rfl, n2, rfl⟩
    go_wp2
    go_ret
    exact ⟨rfl, below_drewN (below2 hb1 hb2) _⟩

set_option maxHeartbeats 400000 in
theorem w2_no2 (s t : ByteArray) (w : World) (hl : s.size + t.size ≤ 1048576) (T0 : TypeId) (p0 e1 e2 : Value) (hv : Vars w T0 p0 e1 e2) (a : Int)
    (H1 : Says2 T0 p0 e1 e2 s a .nilIface true) (H2 : Says2 T0 p0 e1 e2 t 0 (.iface T0 p0) false) :
    Calls Tryd.prog 4 #[.string s, .string t] w fun e w' => e = .returned (.bool true) ∧ Below w.heap.size w w' := by
  have HV := hide hv
  clear hv
  go_enter Tryd.func4, Tryd.ntmps4
  go_wp2_with (go_at_call 9; go_in)
  refine (H1.seq _ (unhide HV)).mono ?_
  rintro e W1 ⟨rfl, hb1⟩
  go_wp2_with fail
  refine (H2.seq _ ((unhide HV).below hb1)).mono ?_
  rintro e W2 ⟨rfl, hb2⟩
  go_wp2_with fail
  refine (H1.fits _).mono ?_
  rintro e W3 ⟨rfl, n1, rfl⟩
  go_wp2_with fail
  refine (H2.fits _).mono ?_
  rintro e W4 ⟨rfl, n2, rfl⟩
  go_wp2
  go_ret
  exact ⟨rfl, below_drewN (below2 hb1 hb2) _⟩

set_option maxHeartbeats 400000 in
theorem w2_yes (s t : ByteArray) (w : World) (hl : s.size + t.size ≤ 1048576) (T0 : TypeId) (p0 e1 e2 : Value) (hv : Vars w T0 p0 e1 e2) (a b : Int) (m n : Nat) (ha : a = m) (hb : b = n)
    (H1 : Says2 T0 p0 e1 e2 s a .nilIface true) (H2 : Says2 T0 p0 e1 e2 t b .nilIface true) (hc : Plain.cmpN (Plain.trimZ s.data.toList) (Plain.trimZ t.data.toList) = Plain.cmpU m n) :
    Calls Tryd.prog 4 #[.string s, .string t] w fun e w' => e = .returned (.bool true) ∧ Below w.heap.size w w' := by
  have HV := hide hv
  have Ha := hide ha
  have Hb := hide hb
  have Hc := hide hc
  clear hv ha hb hc
  go_enter Tryd.func4, Tryd.ntmps4
  go_wp2_with (go_at_call 9; go_in)
  refine (H1.seq _ (unhide HV)).mono ?_
  rintro e W1 ⟨rfl, hb1⟩
  go_wp2_with fail
  refine (H2.seq _ ((unhide HV).below hb1)).mono ?_
  rintro e W2 ⟨rfl, hb2⟩
  go_wp2_with fail
  refine (H1.fits _).mono ?_
  rintro e W3 ⟨rfl, n1, rfl⟩
  go_wp2_with fail
  refine (H2.fits _).mono ?_
  rintro e W4 ⟨rfl, n2, rfl⟩
  go_wp2_with fail
  refine (cmpU_any a b m n (unhide Ha) (unhide Hb) _).mono ?_
  rintro e W5 ⟨rfl, rfl⟩
  go_wp2_with fail
  refine (trim_any s _ (by omega)).mono ?_
  rintro e W6 ⟨s', rfl, hs1, hs2, rfl⟩
  have Hs1 := hide hs1
  clear hs1
  go_wp2_with fail
  refine (trim_any t _ (by omega)).mono ?_
  rintro e W7 ⟨t', rfl, ht1, ht2, rfl⟩
  have Ht1 := hide ht1
  clear ht1
  go_wp2_with fail
  refine (cmp_any s' t' _ (by omega)).mono ?_
  rintro e W8 ⟨rfl, n3, rfl⟩
  have hend : (Plain.cmpU m n == Plain.cmpN s'.data.toList t'.data.toList) = true := by
    rw [unhide Hs1, unhide Ht1, unhide Hc]; exact beq_self_eq_true _
  go_wp2
  go_ret
  exact ⟨rfl, below_drewN (below2 hb1 hb2) _⟩
end Go.Proofs.Qxb6614506aDoor
