/-
  'Rows.FnTreeAddGivesBackEveryNodeInOrderSaid'.
-/
import Derived.Test.Qxb6615701aTlaw8
import Derived.Test.Qxb6615701aRows
import Derived.ProofKit
import Derived.OpenShut
import Derived.ShutString
import Derived.ChangeOld
import Derived.Below
namespace Go.Proofs.Qxb6615701a.fnTreeAddGivesBackEveryNodeInOrder
open Go.ChangeShapes Go.WideShapes Go.ChangeAt Go.RowKit Go Go.Proofs.Qxb6615701a
open Go.ChangeMaps (open_string shut_string)
set_option linter.unusedVariables false

theorem own : ownKnob Try.prog.godebug = none := by kernel_rfl
theorem laidOut : laidOutB Try.prog = true := by kernel_rfl

set_option maxHeartbeats 1000000 in
set_option maxRecDepth 100000 in
theorem out_len (a : Option Addr) (len cap : Nat) (x z : Int) (hml : len ≤ maxLen) (h : 32768 < len) (w : World) :
    Calls Try.prog 5 #[.slice a len cap, .int .i64 x, .int .i64 z] w fun e w' => e = .returned (.bool true) ∧ Below w.heap.size w w' := by
  have h1 : (32768 : Int) < (len : Int) := by omega
  have hb := bytes14 a len cap x z hml w
  have hl' : (len : Int) ≤ 9223372036854775807 := by unfold maxLen at hml; omega
  clear hml
  go_enter Try.func5, Try.ntmps5
  go_wp2_with fail
  refine hb.mono ?_
  rintro e w1 ⟨⟨bl, rfl⟩, rfl⟩
  cases bl
  · go_wp2
    go_ret
    exact ⟨rfl, Below.refl _ _⟩
  · go_wp2
    go_ret
    exact ⟨rfl, Below.refl _ _⟩

set_option maxHeartbeats 1000000 in
set_option maxRecDepth 100000 in
theorem out_x1 (a : Option Addr) (len cap : Nat) (x z : Int) (hml : len ≤ maxLen) (h : len ≤ 32768) (hx : x < 1) (w : World) :
    Calls Try.prog 5 #[.slice a len cap, .int .i64 x, .int .i64 z] w fun e w' => e = .returned (.bool true) ∧ Below w.heap.size w w' := by
  have h1 : ¬ (32768 : Int) < (len : Int) := by omega
  have hb := bytes14 a len cap x z hml w
  have hl' : (len : Int) ≤ 9223372036854775807 := by unfold maxLen at hml; omega
  clear hml
  go_enter Try.func5, Try.ntmps5
  go_wp2_with fail
  refine hb.mono ?_
  rintro e w1 ⟨⟨bl, rfl⟩, rfl⟩
  cases bl
  · go_wp2
    go_ret
    exact ⟨rfl, Below.refl _ _⟩
  · go_wp2
    go_ret
    exact ⟨rfl, Below.refl _ _⟩

set_option maxHeartbeats 1000000 in
set_option maxRecDepth 100000 in
theorem out_x2 (a : Option Addr) (len cap : Nat) (x z : Int) (hml : len ≤ maxLen) (h : len ≤ 32768) (hx0 : ¬ x < 1) (hx : 65536 < x) (w : World) :
    Calls Try.prog 5 #[.slice a len cap, .int .i64 x, .int .i64 z] w fun e w' => e = .returned (.bool true) ∧ Below w.heap.size w w' := by
  have h1 : ¬ (32768 : Int) < (len : Int) := by omega
  have hb := bytes14 a len cap x z hml w
  have hl' : (len : Int) ≤ 9223372036854775807 := by unfold maxLen at hml; omega
  clear hml
  go_enter Try.func5, Try.ntmps5
  go_wp2_with fail
  refine hb.mono ?_
  rintro e w1 ⟨⟨bl, rfl⟩, rfl⟩
  cases bl
  · go_wp2
    go_ret
    exact ⟨rfl, Below.refl _ _⟩
  · go_wp2
    go_ret
    exact ⟨rfl, Below.refl _ _⟩

set_option maxHeartbeats 1000000 in
set_option maxRecDepth 100000 in
theorem out_z1 (a : Option Addr) (len cap : Nat) (x z : Int) (hml : len ≤ maxLen) (h : len ≤ 32768) (hx0 : ¬ x < 1) (hx1 : ¬ 65536 < x) (hz : z < 31) (w : World) :
    Calls Try.prog 5 #[.slice a len cap, .int .i64 x, .int .i64 z] w fun e w' => e = .returned (.bool true) ∧ Below w.heap.size w w' := by
  have h1 : ¬ (32768 : Int) < (len : Int) := by omega
  have hb := bytes14 a len cap x z hml w
  have hl' : (len : Int) ≤ 9223372036854775807 := by unfold maxLen at hml; omega
  clear hml
  go_enter Try.func5, Try.ntmps5
  go_wp2_with fail
  refine hb.mono ?_
  rintro e w1 ⟨⟨bl, rfl⟩, rfl⟩
  cases bl
  · go_wp2
    go_ret
    exact ⟨rfl, Below.refl _ _⟩
  · go_wp2
    go_ret
    exact ⟨rfl, Below.refl _ _⟩

set_option maxHeartbeats 1000000 in
set_option maxRecDepth 100000 in
theorem out_z2 (a : Option Addr) (len cap : Nat) (x z : Int) (hml : len ≤ maxLen) (h : len ≤ 32768) (hx0 : ¬ x < 1) (hx1 : ¬ 65536 < x) (hz0 : ¬ z < 31) (hz : 65536 < z) (w : World) :
    Calls Try.prog 5 #[.slice a len cap, .int .i64 x, .int .i64 z] w fun e w' => e = .returned (.bool true) ∧ Below w.heap.size w w' := by
  have h1 : ¬ (32768 : Int) < (len : Int) := by omega
  have hb := bytes14 a len cap x z hml w
  have hl' : (len : Int) ≤ 9223372036854775807 := by unfold maxLen at hml; omega
  clear hml
  go_enter Try.func5, Try.ntmps5
  go_wp2_with fail
  refine hb.mono ?_
  rintro e w1 ⟨⟨bl, rfl⟩, rfl⟩
  cases bl
  · go_wp2
    go_ret
    exact ⟨rfl, Below.refl _ _⟩
  · go_wp2
    go_ret
    exact ⟨rfl, Below.refl _ _⟩

theorem walk (a : Option Addr) (len cap : Nat) (L : List Nd) (x z : Int) (w : World) (hN : Nodes w a len L) (hml : len ≤ maxLen) :
    Calls Try.prog 5 #[.slice a len cap, .int .i64 x, .int .i64 z] w fun e w' => e = .returned (.bool true) ∧ Below w.heap.size w w' := by
  by_cases h : 32768 < len
  · exact out_len a len cap x z hml h w
  have h' : len ≤ 32768 := by omega
  by_cases x1 : x < 1
  · exact out_x1 a len cap x z hml h' x1 w
  by_cases x2 : 65536 < x
  · exact out_x2 a len cap x z hml h' x1 x2 w
  by_cases z1 : z < 31
  · exact out_z1 a len cap x z hml h' x1 x2 z1 w
  by_cases z2 : 65536 < z
  · exact out_z2 a len cap x z hml h' x1 x2 z1 z2 w
  obtain ⟨ra, rfl⟩ := Int.eq_ofNat_of_zero_le (show 0 ≤ x by omega)
  obtain ⟨cs, rfl⟩ := Int.eq_ofNat_of_zero_le (show 0 ≤ z by omega)
  exact law5_main a len cap ra cs L w hN h' (by omega) (by omega) (by omega) (by omega)

set_option maxRecDepth 100000 in
theorem lifted (os : Os) (started : os.Started) (H : Type) (enc : TypeId × Value → H) :
    ReturnsInHanded {} Try.checked os 5 .any (Rows.fnTreeAddGivesBackEveryNodeInOrderSpec.pre6 enc Try.prog Try.f5 Rows.fnTreeAddGivesBackEveryNodeInOrderRow.domain false) (Rows.fnTreeAddGivesBackEveryNodeInOrderSpec.post enc Try.prog Try.f5 false true false false) := by
  refine returnsInHanded_of_change (C := Try.checked) own started (by kernel_rfl) Try.func5
    (ChangeSpec.witness6 (enc := enc) (C := Try.checked) false ⟨#[], #[.slice none 0 0, .int .i64 0, .int .i64 0], []⟩ 8 (by kernel_rfl) (by kernel_rfl) (by kernel_rfl) (by kernel_rfl)) ?_
  intro W base args ds gs before hval0 hW hcnd _
  have hval : ∀ (j : Nat) t v, Try.f5.params[j]? = some t → args[j]? = some v → Value.okWide Try.prog W .any base t v := hval0
  have hW' := hW
  obtain ⟨p, q, hA0, hV, rfl, hfz, hnd⟩ := hW
  have hA : DataW.TrodAll enc Try.prog W 0 (fun _ => true) true Try.f5.params.toList args.toList ds p := hA0
  rw [Try.params5] at hA hval
  obtain ⟨v0, vs0, d0, ds0, p0, q0, hargs, rfl, rfl, h0, r0⟩ := trodAll_cons hA
  obtain ⟨v1, vs1, d1, ds1, p1, q1, rfl, rfl, rfl, h1, r1⟩ := trodAll_cons r0
  obtain ⟨v2, vs2, d2, ds2, p2, q2, rfl, rfl, rfl, h2, r2⟩ := trodAll_cons r1
  obtain ⟨rfl, rfl, rfl⟩ := trodAll_nil r2
  obtain rfl : args = #[v0, v1, v2] := by cases args; simp_all
  obtain ⟨rfl, rfl⟩ := trodVars_none hV
  obtain ⟨a0, len0, cap0, rfl⟩ := okWide_slice Try.underlying32 (hval 0 32 v0 rfl rfl)
  have k0 := h0
  have lt0 : ∀ x ∈ p0, x.block < W.heap.size := by obtain ⟨m, hm⟩ := k0; exact DataW.trod_lt m _ _ _ hm
  obtain ⟨L, w0, hml⟩ : ∃ L, Nodes W a0 len0 L ∧ len0 ≤ maxLen := by
    obtain ⟨fuel, hf⟩ := h0
    exact open_nodes hf
  obtain ⟨a1, rfl, rfl, rfl, w1⟩ := open_int Try.underlying3 (hval 1 3 v1 rfl rfl) h1
  obtain ⟨a2, rfl, rfl, rfl, w2⟩ := open_int Try.underlying3 (hval 2 3 v2 rfl rfl) h2
  clear hA0 hval0
  refine (walk a0 len0 cap0 L a1 a2 W w0 hml).mono fun e W' ⟨he, bel⟩ => ?_
  subst he
  exact ⟨_, rfl, _, _, _, [], _, [], hW', trodAll_mk1 (shut_bool Try.underlying4 _), (trodAll_cons_mk (Below.trod laidOut (by kernel_rfl) (of_decide_eq_true (by kernel_rfl)) k0 bel lt0) (trodAll_cons_mk (shut_int Try.underlying3 w1) (trodAll_cons_mk (shut_int Try.underlying3 w2) trodAll_mk0))), rfl, bel.frame _, fun h => by cases h⟩

theorem over : Rows.fnTreeAddGivesBackEveryNodeInOrderRow.holds Try.pinned (OpenSpec.ofChange Rows.fnTreeAddGivesBackEveryNodeInOrderSpec) :=
  OpenClaim.holds_of_wide 5 Try.f5 rfl rfl rfl rfl rfl rfl rfl ⟨rfl, rfl, rfl, rfl, rfl⟩ rfl rfl rfl rfl rfl (by kernel_rfl) Try.func5 (by kernel_rfl)
    (of_decide_eq_true (by kernel_rfl)) (by unfold Func.isWrapper; first | (rw [if_pos (by decide +kernel)]; kernel_rfl) | (rw [if_neg (by decide +kernel)]; exact ⟨rfl, rfl⟩))
    (fun os started H enc _ => lifted os started H enc)

/-- ████ THE STATEMENT ████ -/
theorem proved : Rows.FnTreeAddGivesBackEveryNodeInOrderSaid := over
end Go.Proofs.Qxb6615701a.fnTreeAddGivesBackEveryNodeInOrder
