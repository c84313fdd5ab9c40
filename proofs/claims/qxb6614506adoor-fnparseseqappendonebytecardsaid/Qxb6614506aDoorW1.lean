/-
  The walk of FnParseSeqAppendOneByte (function 3).
-/
import Derived.Test.Qxb6614506aDoorSeq
import Derived.Outline
namespace Go.Proofs.Qxb6614506aDoor
open Go.Shelf Go.RowKit

set_option maxHeartbeats 400000 in
theorem w1_long (s : ByteArray) (c : Int) (w : World) (hs : s.size ≤ maxLen) (hbig : 1048576 < s.size) :
    Calls Tryd.prog 3 #[.string s, .int .u8 c] w fun e w' => e = .returned (.bool true) ∧ Below w.heap.size w w' := by
  unfold maxLen at hs
  go_enter Tryd.func3, Tryd.ntmps3
  go_wp2
  go_ret
  exact ⟨rfl, Below.refl _ _⟩


theorem conv1 (w : World) (c : UInt8) : (convert 23 9 (.slice (some ⟨w.heap.size, 0, none⟩) 1 1)).run Tryd.prog (w.alloc (.cells #[.int .u8 c.toNat] 5)) = .ok (.string ⟨#[c]⟩) (w.alloc (.cells #[.int .u8 c.toNat] 5)) := by
  refine run_convert_bytes_back (w.alloc (.cells #[.int .u8 c.toNat] 5)) 23 9 5 ⟨w.heap.size, 0, none⟩ 1 [c] Tryd.underlying23 Tryd.underlying5 Tryd.underlying9 ?_
  intro j hj
  have : j = 0 := by simpa using hj
  subst this
  simp [Addr.add]

theorem below_in {w w1 w2 : World} (o : Obj) (h1 : Below (w.alloc o).heap.size (w.alloc o) w1) (h2 : Below w1.heap.size w1 w2) : Below w.heap.size w w2 := by
  have hz : w.heap.size ≤ (w.alloc o).heap.size := by simp
  exact (((Below.refl _ _).alloc (Nat.le_refl _) _).trans (h1.mono hz)).trans (h2.mono (Nat.le_trans hz h1.size))

theorem Vars.alloc {w : World} {T0 : TypeId} {p0 e1 e2 : Value} (h : Vars w T0 p0 e1 e2) (o : Obj) : Vars (w.alloc o) T0 p0 e1 e2 :=
  h.below ((Below.refl _ _).alloc (Nat.le_refl _) _)

/-- What ParseSeq answers at one string, wherever the three variables lie. -/
def Says (T0 : TypeId) (p0 e1 e2 : Value) (s : ByteArray) (a : Int) (v : Value) : Prop :=
  ∀ W, Vars W T0 p0 e1 e2 → Calls Tryd.prog 6 #[.string s] W fun e w' => e = .returned (.tuple #[.int .u64 a, v]) ∧ Below W.heap.size W w'

set_option maxHeartbeats 400000 in
theorem w1_a (s : ByteArray) (c : UInt8) (w : World) (hs : s.size ≤ 1048576) (T0 : TypeId) (p0 e1 e2 : Value) (hv : Vars w T0 p0 e1 e2) (a b : Int) (H1 : Says T0 p0 e1 e2 s a (.iface T0 p0)) (H2 : Says T0 p0 e1 e2 (s ++ ⟨#[c]⟩) b (.iface T0 p0))
    (ha : a = 0) (hb : b = 0) (hd : Plain.allDig s.data.toList = false) :
    Calls Tryd.prog 3 #[.string s, .int .u8 c.toNat] w fun e w' => e = .returned (.bool true) ∧ Below w.heap.size w w' := by
  have hcv := conv1 w c
  have hv1 := hide (hv.alloc (.cells #[.int .u8 c.toNat] 5))
  clear hv
  subst ha hb
  go_enter Tryd.func3, Tryd.ntmps3
  go_wp2_with (go_at_call 5; go_in)
  refine (H1 _ (unhide hv1)).mono ?_
  rintro e W1 ⟨rfl, hb1⟩
  go_wp2_with fail
  refine (H2 _ ((unhide hv1).below hb1)).mono ?_
  rintro e W2 ⟨rfl, hb2⟩
  go_wp2_with (first | (go_at_call 7; refine (digits_any _ _ (by omega)).mono ?_; rintro e w' ⟨rfl, rfl⟩) | (go_at_call 8; refine (zeros_any _ _ (by omega)).mono ?_; rintro e w' ⟨rfl, rfl⟩))
  all_goals go_ret
  all_goals exact ⟨rfl, below_in _ hb1 hb2⟩

set_option maxHeartbeats 400000 in
theorem w1_b1 (s : ByteArray) (c : UInt8) (w : World) (hs : s.size ≤ 1048576) (T0 : TypeId) (p0 e1 e2 : Value) (hv : Vars w T0 p0 e1 e2) (a b : Int) (H1 : Says T0 p0 e1 e2 s a (.iface T0 p0)) (H2 : Says T0 p0 e1 e2 (s ++ ⟨#[c]⟩) b (.iface T0 p0))
    (ha : a = 0) (hb : b = 0) (hc : (c.toNat : Int) < 48) :
    Calls Tryd.prog 3 #[.string s, .int .u8 c.toNat] w fun e w' => e = .returned (.bool true) ∧ Below w.heap.size w w' := by
  have hcv := conv1 w c
  have hv1 := hide (hv.alloc (.cells #[.int .u8 c.toNat] 5))
  clear hv
  subst ha hb
  go_enter Tryd.func3, Tryd.ntmps3
  go_wp2_with (go_at_call 5; go_in)
  refine (H1 _ (unhide hv1)).mono ?_
  rintro e W1 ⟨rfl, hb1⟩
  go_wp2_with fail
  refine (H2 _ ((unhide hv1).below hb1)).mono ?_
  rintro e W2 ⟨rfl, hb2⟩
  go_wp2_with (first | (go_at_call 7; refine (digits_any _ _ (by omega)).mono ?_; rintro e w' ⟨rfl, rfl⟩) | (go_at_call 8; refine (zeros_any _ _ (by omega)).mono ?_; rintro e w' ⟨rfl, rfl⟩))
  all_goals go_ret
  all_goals exact ⟨rfl, below_in _ hb1 hb2⟩

set_option maxHeartbeats 400000 in
theorem w1_b2 (s : ByteArray) (c : UInt8) (w : World) (hs : s.size ≤ 1048576) (T0 : TypeId) (p0 e1 e2 : Value) (hv : Vars w T0 p0 e1 e2) (a b : Int) (H1 : Says T0 p0 e1 e2 s a (.iface T0 p0)) (H2 : Says T0 p0 e1 e2 (s ++ ⟨#[c]⟩) b (.iface T0 p0))
    (ha : a = 0) (hb : b = 0) (hc : 57 < (c.toNat : Int)) :
    Calls Tryd.prog 3 #[.string s, .int .u8 c.toNat] w fun e w' => e = .returned (.bool true) ∧ Below w.heap.size w w' := by
  have hcv := conv1 w c
  have hv1 := hide (hv.alloc (.cells #[.int .u8 c.toNat] 5))
  clear hv
  subst ha hb
  go_enter Tryd.func3, Tryd.ntmps3
  go_wp2_with (go_at_call 5; go_in)
  refine (H1 _ (unhide hv1)).mono ?_
  rintro e W1 ⟨rfl, hb1⟩
  go_wp2_with fail
  refine (H2 _ ((unhide hv1).below hb1)).mono ?_
  rintro e W2 ⟨rfl, hb2⟩
  go_wp2_with (first | (go_at_call 7; refine (digits_any _ _ (by omega)).mono ?_; rintro e w' ⟨rfl, rfl⟩) | (go_at_call 8; refine (zeros_any _ _ (by omega)).mono ?_; rintro e w' ⟨rfl, rfl⟩))
  all_goals go_ret
  all_goals exact ⟨rfl, below_in _ hb1 hb2⟩

set_option maxHeartbeats 400000 in
theorem w1_c1 (s : ByteArray) (c : UInt8) (w : World) (hs : s.size ≤ 1048576) (T0 : TypeId) (p0 e1 e2 : Value) (hv : Vars w T0 p0 e1 e2) (a b : Int) (H1 : Says T0 p0 e1 e2 s a .nilIface) (H2 : Says T0 p0 e1 e2 (s ++ ⟨#[c]⟩) b (.iface T0 p0))
    (a0 : 0 < a) (a1 : a ≤ 9223372036854775807) (hb : b = 0) (hd : Plain.allDig s.data.toList = true) (hz : Plain.allZer s.data.toList = false) (hc : (c.toNat : Int) < 48) :
    Calls Tryd.prog 3 #[.string s, .int .u8 c.toNat] w fun e w' => e = .returned (.bool true) ∧ Below w.heap.size w w' := by
  have hcv := conv1 w c
  have hv1 := hide (hv.alloc (.cells #[.int .u8 c.toNat] 5))
  clear hv
  subst hb
  have an : (a == 0) = false := beq_eq_false_iff_ne.2 (by omega)
  go_enter Tryd.func3, Tryd.ntmps3
  go_wp2_with (go_at_call 5; go_in)
  refine (H1 _ (unhide hv1)).mono ?_
  rintro e W1 ⟨rfl, hb1⟩
  go_wp2_with fail
  refine (H2 _ ((unhide hv1).below hb1)).mono ?_
  rintro e W2 ⟨rfl, hb2⟩
  go_wp2_with (first | (go_at_call 7; refine (digits_any _ _ (by omega)).mono ?_; rintro e w' ⟨rfl, rfl⟩) | (go_at_call 8; refine (zeros_any _ _ (by omega)).mono ?_; rintro e w' ⟨rfl, rfl⟩))
  all_goals go_ret
  all_goals exact ⟨rfl, below_in _ hb1 hb2⟩

set_option maxHeartbeats 400000 in
theorem w1_c2 (s : ByteArray) (c : UInt8) (w : World) (hs : s.size ≤ 1048576) (T0 : TypeId) (p0 e1 e2 : Value) (hv : Vars w T0 p0 e1 e2) (a b : Int) (H1 : Says T0 p0 e1 e2 s a .nilIface) (H2 : Says T0 p0 e1 e2 (s ++ ⟨#[c]⟩) b (.iface T0 p0))
    (a0 : 0 < a) (a1 : a ≤ 9223372036854775807) (hb : b = 0) (hd : Plain.allDig s.data.toList = true) (hz : Plain.allZer s.data.toList = false) (hc : 57 < (c.toNat : Int)) :
    Calls Tryd.prog 3 #[.string s, .int .u8 c.toNat] w fun e w' => e = .returned (.bool true) ∧ Below w.heap.size w w' := by
  have hcv := conv1 w c
  have hv1 := hide (hv.alloc (.cells #[.int .u8 c.toNat] 5))
  clear hv
  subst hb
  have an : (a == 0) = false := beq_eq_false_iff_ne.2 (by omega)
  go_enter Tryd.func3, Tryd.ntmps3
  go_wp2_with (go_at_call 5; go_in)
  refine (H1 _ (unhide hv1)).mono ?_
  rintro e W1 ⟨rfl, hb1⟩
  go_wp2_with fail
  refine (H2 _ ((unhide hv1).below hb1)).mono ?_
  rintro e W2 ⟨rfl, hb2⟩
  go_wp2_with (first | (go_at_call 7; refine (digits_any _ _ (by omega)).mono ?_; rintro e w' ⟨rfl, rfl⟩) | (go_at_call 8; refine (zeros_any _ _ (by omega)).mono ?_; rintro e w' ⟨rfl, rfl⟩))
  all_goals go_ret
  all_goals exact ⟨rfl, below_in _ hb1 hb2⟩

set_option maxHeartbeats 400000 in
theorem w1_d (s : ByteArray) (c : UInt8) (w : World) (hs : s.size ≤ 1048576) (T0 : TypeId) (p0 e1 e2 : Value) (hv : Vars w T0 p0 e1 e2) (a b : Int) (H1 : Says T0 p0 e1 e2 s a (.iface T0 p0)) (H2 : Says T0 p0 e1 e2 (s ++ ⟨#[c]⟩) b (.iface T0 p0))
    (ha : a = 0) (hb : b = 0) (hd : Plain.allDig s.data.toList = true) (hz : Plain.allZer s.data.toList = true) (c0 : 48 ≤ (c.toNat : Int)) (c1 : (c.toNat : Int) ≤ 48) :
    Calls Tryd.prog 3 #[.string s, .int .u8 c.toNat] w fun e w' => e = .returned (.bool true) ∧ Below w.heap.size w w' := by
  have hcv := conv1 w c
  have hv1 := hide (hv.alloc (.cells #[.int .u8 c.toNat] 5))
  clear hv
  subst ha hb
  go_enter Tryd.func3, Tryd.ntmps3
  go_wp2_with (go_at_call 5; go_in)
  refine (H1 _ (unhide hv1)).mono ?_
  rintro e W1 ⟨rfl, hb1⟩
  go_wp2_with fail
  refine (H2 _ ((unhide hv1).below hb1)).mono ?_
  rintro e W2 ⟨rfl, hb2⟩
  go_wp2_with (first | (go_at_call 7; refine (digits_any _ _ (by omega)).mono ?_; rintro e w' ⟨rfl, rfl⟩) | (go_at_call 8; refine (zeros_any _ _ (by omega)).mono ?_; rintro e w' ⟨rfl, rfl⟩))
  all_goals go_ret
  all_goals exact ⟨rfl, below_in _ hb1 hb2⟩

set_option maxHeartbeats 400000 in
theorem w1_e (s : ByteArray) (c : UInt8) (w : World) (hs : s.size ≤ 1048576) (T0 : TypeId) (p0 e1 e2 : Value) (hv : Vars w T0 p0 e1 e2) (a b : Int) (H1 : Says T0 p0 e1 e2 s a (.iface T0 p0)) (H2 : Says T0 p0 e1 e2 (s ++ ⟨#[c]⟩) b .nilIface)
    (ha : a = 0) (hb : b = (c.toNat : Int) - 48) (hd : Plain.allDig s.data.toList = true) (hz : Plain.allZer s.data.toList = true) (c0 : 48 < (c.toNat : Int)) (c1 : (c.toNat : Int) ≤ 57) :
    Calls Tryd.prog 3 #[.string s, .int .u8 c.toNat] w fun e w' => e = .returned (.bool true) ∧ Below w.heap.size w w' := by
  have hcv := conv1 w c
  have hv1 := hide (hv.alloc (.cells #[.int .u8 c.toNat] 5))
  clear hv
  subst ha hb
  go_enter Tryd.func3, Tryd.ntmps3
  go_wp2_with (go_at_call 5; go_in)
  refine (H1 _ (unhide hv1)).mono ?_
  rintro e W1 ⟨rfl, hb1⟩
  go_wp2_with fail
  refine (H2 _ ((unhide hv1).below hb1)).mono ?_
  rintro e W2 ⟨rfl, hb2⟩
  go_wp2_with (first | (go_at_call 7; refine (digits_any _ _ (by omega)).mono ?_; rintro e w' ⟨rfl, rfl⟩) | (go_at_call 8; refine (zeros_any _ _ (by omega)).mono ?_; rintro e w' ⟨rfl, rfl⟩))
  all_goals go_ret
  all_goals exact ⟨rfl, below_in _ hb1 hb2⟩

set_option maxHeartbeats 400000 in
theorem w1_f (s : ByteArray) (c : UInt8) (w : World) (hs : s.size ≤ 1048576) (T0 : TypeId) (p0 e1 e2 : Value) (hv : Vars w T0 p0 e1 e2) (a b : Int) (H1 : Says T0 p0 e1 e2 s a (.iface T0 p0)) (H2 : Says T0 p0 e1 e2 (s ++ ⟨#[c]⟩) b (.iface T0 p0))
    (ha : a = 0) (hb : b = 0) (hd : Plain.allDig s.data.toList = true) (hz : Plain.allZer s.data.toList = false) (c0 : 48 ≤ (c.toNat : Int)) (c1 : (c.toNat : Int) ≤ 57) :
    Calls Tryd.prog 3 #[.string s, .int .u8 c.toNat] w fun e w' => e = .returned (.bool true) ∧ Below w.heap.size w w' := by
  have hcv := conv1 w c
  have hv1 := hide (hv.alloc (.cells #[.int .u8 c.toNat] 5))
  clear hv
  subst ha hb
  go_enter Tryd.func3, Tryd.ntmps3
  go_wp2_with (go_at_call 5; go_in)
  refine (H1 _ (unhide hv1)).mono ?_
  rintro e W1 ⟨rfl, hb1⟩
  go_wp2_with fail
  refine (H2 _ ((unhide hv1).below hb1)).mono ?_
  rintro e W2 ⟨rfl, hb2⟩
  go_wp2_with (first | (go_at_call 7; refine (digits_any _ _ (by omega)).mono ?_; rintro e w' ⟨rfl, rfl⟩) | (go_at_call 8; refine (zeros_any _ _ (by omega)).mono ?_; rintro e w' ⟨rfl, rfl⟩))
  all_goals go_ret
  all_goals exact ⟨rfl, below_in _ hb1 hb2⟩

set_option maxHeartbeats 400000 in
theorem w1_g (s : ByteArray) (c : UInt8) (w : World) (hs : s.size ≤ 1048576) (T0 : TypeId) (p0 e1 e2 : Value) (hv : Vars w T0 p0 e1 e2) (a b : Int) (H1 : Says T0 p0 e1 e2 s a .nilIface) (H2 : Says T0 p0 e1 e2 (s ++ ⟨#[c]⟩) b .nilIface)
    (a0 : 0 < a) (a1 : a ≤ 9223372036854775807) (hb : b = a * 10 + ((c.toNat : Int) - 48)) (hd : Plain.allDig s.data.toList = true) (hz : Plain.allZer s.data.toList = false) (c0 : 48 ≤ (c.toNat : Int)) (c1 : (c.toNat : Int) ≤ 57) (hle : a * 10 + ((c.toNat : Int) - 48) ≤ 9223372036854775807) :
    Calls Tryd.prog 3 #[.string s, .int .u8 c.toNat] w fun e w' => e = .returned (.bool true) ∧ Below w.heap.size w w' := by
  have hcv := conv1 w c
  have hv1 := hide (hv.alloc (.cells #[.int .u8 c.toNat] 5))
  clear hv
  subst hb
  have an : (a == 0) = false := beq_eq_false_iff_ne.2 (by omega)
  have hq : a ≤ (9223372036854775807 - ((c.toNat : Int) - 48)) / 10 := by omega
  go_enter Tryd.func3, Tryd.ntmps3
  go_wp2_with (go_at_call 5; go_in)
  refine (H1 _ (unhide hv1)).mono ?_
  rintro e W1 ⟨rfl, hb1⟩
  go_wp2_with fail
  refine (H2 _ ((unhide hv1).below hb1)).mono ?_
  rintro e W2 ⟨rfl, hb2⟩
  go_wp2_with (first | (go_at_call 7; refine (digits_any _ _ (by omega)).mono ?_; rintro e w' ⟨rfl, rfl⟩) | (go_at_call 8; refine (zeros_any _ _ (by omega)).mono ?_; rintro e w' ⟨rfl, rfl⟩))
  all_goals go_ret
  all_goals exact ⟨rfl, below_in _ hb1 hb2⟩

set_option maxHeartbeats 400000 in
theorem w1_h (s : ByteArray) (c : UInt8) (w : World) (hs : s.size ≤ 1048576) (T0 : TypeId) (p0 e1 e2 : Value) (hv : Vars w T0 p0 e1 e2) (a b : Int) (H1 : Says T0 p0 e1 e2 s a .nilIface) (H2 : Says T0 p0 e1 e2 (s ++ ⟨#[c]⟩) b (.iface T0 p0))
    (a0 : 0 < a) (a1 : a ≤ 9223372036854775807) (hb : b = 0) (hd : Plain.allDig s.data.toList = true) (hz : Plain.allZer s.data.toList = false) (c0 : 48 ≤ (c.toNat : Int)) (c1 : (c.toNat : Int) ≤ 57) (hle : 9223372036854775807 < a * 10 + ((c.toNat : Int) - 48)) :
    Calls Tryd.prog 3 #[.string s, .int .u8 c.toNat] w fun e w' => e = .returned (.bool true) ∧ Below w.heap.size w w' := by
  have hcv := conv1 w c
  have hv1 := hide (hv.alloc (.cells #[.int .u8 c.toNat] 5))
  clear hv
  subst hb
  have an : (a == 0) = false := beq_eq_false_iff_ne.2 (by omega)
  have hq : (9223372036854775807 - ((c.toNat : Int) - 48)) / 10 < a := by omega
  go_enter Tryd.func3, Tryd.ntmps3
  go_wp2_with (go_at_call 5; go_in)
  refine (H1 _ (unhide hv1)).mono ?_
  rintro e W1 ⟨rfl, hb1⟩
  go_wp2_with fail
  refine (H2 _ ((unhide hv1).below hb1)).mono ?_
  rintro e W2 ⟨rfl, hb2⟩
  go_wp2_with (first | (go_at_call 7; refine (digits_any _ _ (by omega)).mono ?_; rintro e w' ⟨rfl, rfl⟩) | (go_at_call 8; refine (zeros_any _ _ (by omega)).mono ?_; rintro e w' ⟨rfl, rfl⟩))
  all_goals go_ret
  all_goals exact ⟨rfl, below_in _ hb1 hb2⟩

end Go.Proofs.Qxb6614506aDoor
