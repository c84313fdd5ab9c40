/-
  'Rows.FnTreeAddWritesTheSameBytesWhateverTheBatchRoomSaid'.
-/
import Derived.Test.Qxb6615701aTlaw6
import Derived.Test.Qxb6615701aRows
import Derived.ProofKit
import Derived.OpenShut
import Derived.ShutString
import Derived.ChangeOld
import Derived.Below
namespace Go.Proofs.Qxb6615701a.fnTreeAddWritesTheSameBytesWhateverTheBatchRoom
open Go.ChangeShapes Go.WideShapes Go.ChangeAt Go.RowKit Go Go.Proofs.Qxb6615701a
open Go.ChangeMaps (open_string shut_string)
set_option linter.unusedVariables false

theorem own : ownKnob Try.prog.godebug = none := by kernel_rfl
theorem laidOut : laidOutB Try.prog = true := by kernel_rfl

set_option maxHeartbeats 1000000 in
set_option maxRecDepth 100000 in
theorem out_len (a : Option Addr) (len cap : Nat) (x y z : Int) (hml : len ≤ maxLen) (h : 32768 < len) (w : World) :
    Calls Try.prog 6 #[.slice a len cap, .int .i64 x, .int .i64 y, .int .i64 z] w fun e w' => e = .returned (.bool true) ∧ Below w.heap.size w w' := by
  have h1 : (32768 : Int) < (len : Int) := by omega
  have hb := bytes23 a len cap x y z hml w
  have hl' : (len : Int) ≤ 9223372036854775807 := by unfold maxLen at hml; omega
  clear hml
  go_enter Try.func6, Try.ntmps6
  go_wp2_with fail
  refine hb.mono ?_
  rintro e w1 ⟨⟨bl, rfl⟩, rfl⟩
  cases bl
  · go_wp2
    go_ret
    exact ⟨rfl, Below.refl _ _⟩
  · go_wp2
    go_ret
    exact ⟨rfl, Below.refl _ _⟩

set_option maxHeartbeats 1000000 in
set_option maxRecDepth 100000 in
theorem out_x1 (a : Option Addr) (len cap : Nat) (x y z : Int) (hml : len ≤ maxLen) (h : len ≤ 32768) (hx : x < 1) (w : World) :
    Calls Try.prog 6 #[.slice a len cap, .int .i64 x, .int .i64 y, .int .i64 z] w fun e w' => e = .returned (.bool true) ∧ Below w.heap.size w w' := by
  have h1 : ¬ (32768 : Int) < (len : Int) := by omega
  have hb := bytes23 a len cap x y z hml w
  have hl' : (len : Int) ≤ 9223372036854775807 := by unfold maxLen at hml; omega
  clear hml
  go_enter Try.func6, Try.ntmps6
  go_wp2_with fail
  refine hb.mono ?_
  rintro e w1 ⟨⟨bl, rfl⟩, rfl⟩
  cases bl
  · go_wp2
    go_ret
    exact ⟨rfl, Below.refl _ _⟩
  · go_wp2
    go_ret
    exact ⟨rfl, Below.refl _ _⟩

set_option maxHeartbeats 1000000 in
set_option maxRecDepth 100000 in
theorem out_x2 (a : Option Addr) (len cap : Nat) (x y z : Int) (hml : len ≤ maxLen) (h : len ≤ 32768) (hx0 : ¬ x < 1) (hx : 65536 < x) (w : World) :
    Calls Try.prog 6 #[.slice a len cap, .int .i64 x, .int .i64 y, .int .i64 z] w fun e w' => e = .returned (.bool true) ∧ Below w.heap.size w w' := by
  have h1 : ¬ (32768 : Int) < (len : Int) := by omega
  have hb := bytes23 a len cap x y z hml w
  have hl' : (len : Int) ≤ 9223372036854775807 := by unfold maxLen at hml; omega
  clear hml
  go_enter Try.func6, Try.ntmps6
  go_wp2_with fail
  refine hb.mono ?_
  rintro e w1 ⟨⟨bl, rfl⟩, rfl⟩
  cases bl
  · go_wp2
    go_ret
    exact ⟨rfl, Below.refl _ _⟩
  · go_wp2
    go_ret
    exact ⟨rfl, Below.refl _ _⟩

set_option maxHeartbeats 1000000 in
set_option maxRecDepth 100000 in
theorem out_y1 (a : Option Addr) (len cap : Nat) (x y z : Int) (hml : len ≤ maxLen) (h : len ≤ 32768) (hx0 : ¬ x < 1) (hx1 : ¬ 65536 < x) (hy : y < 1) (w : World) :
    Calls Try.prog 6 #[.slice a len cap, .int .i64 x, .int .i64 y, .int .i64 z] w fun e w' => e = .returned (.bool true) ∧ Below w.heap.size w w' := by
  have h1 : ¬ (32768 : Int) < (len : Int) := by omega
  have hb := bytes23 a len cap x y z hml w
  have hl' : (len : Int) ≤ 9223372036854775807 := by unfold maxLen at hml; omega
  clear hml
  go_enter Try.func6, Try.ntmps6
  go_wp2_with fail
  refine hb.mono ?_
  rintro e w1 ⟨⟨bl, rfl⟩, rfl⟩
  cases bl
  · go_wp2
    go_ret
    exact ⟨rfl, Below.refl _ _⟩
  · go_wp2
    go_ret
    exact ⟨rfl, Below.refl _ _⟩

set_option maxHeartbeats 1000000 in
set_option maxRecDepth 100000 in
theorem out_y2 (a : Option Addr) (len cap : Nat) (x y z : Int) (hml : len ≤ maxLen) (h : len ≤ 32768) (hx0 : ¬ x < 1) (hx1 : ¬ 65536 < x) (hy0 : ¬ y < 1) (hy : 65536 < y) (w : World) :
    Calls Try.prog 6 #[.slice a len cap, .int .i64 x, .int .i64 y, .int .i64 z] w fun e w' => e = .returned (.bool true) ∧ Below w.heap.size w w' := by
  have h1 : ¬ (32768 : Int) < (len : Int) := by omega
  have hb := bytes23 a len cap x y z hml w
  have hl' : (len : Int) ≤ 9223372036854775807 := by unfold maxLen at hml; omega
  clear hml
  go_enter Try.func6, Try.ntmps6
  go_wp2_with fail
  refine hb.mono ?_
  rintro e w1 ⟨⟨bl, rfl⟩, rfl⟩
  cases bl
  · go_wp2
    go_ret
    exact ⟨rfl, Below.refl _ _⟩
  · go_wp2
    go_ret
    exact ⟨rfl, Below.refl _ _⟩

set_option maxHeartbeats 1000000 in
set_option maxRecDepth 100000 in
theorem out_z1 (a : Option Addr) (len cap : Nat) (x y z : Int) (hml : len ≤ maxLen) (h : len ≤ 32768) (hx0 : ¬ x < 1) (hx1 : ¬ 65536 < x) (hy0 : ¬ y < 1) (hy1 : ¬ 65536 < y) (hz : z < 31) (w : World) :
    Calls Try.prog 6 #[.slice a len cap, .int .i64 x, .int .i64 y, .int .i64 z] w fun e w' => e = .returned (.bool true) ∧ Below w.heap.size w w' := by
  have h1 : ¬ (32768 : Int) < (len : Int) := by omega
  have hb := bytes23 a len cap x y z hml w
  have hl' : (len : Int) ≤ 9223372036854775807 := by unfold maxLen at hml; omega
  clear hml
  go_enter Try.func6, Try.ntmps6
  go_wp2_with fail
  refine hb.mono ?_
  rintro e w1 ⟨⟨bl, rfl⟩, rfl⟩
  cases bl
  · go_wp2
    go_ret
    exact ⟨rfl, Below.refl _ _⟩
  · go_wp2
    go_ret
    exact ⟨rfl, Below.refl _ _⟩

set_option maxHeartbeats 1000000 in
set_option maxRecDepth 100000 in
theorem out_z2 (a : Option Addr) (len cap : Nat) (x y z : Int) (hml : len ≤ maxLen) (h : len ≤ 32768) (hx0 : ¬ x < 1) (hx1 : ¬ 65536 < x) (hy0 : ¬ y < 1) (hy1 : ¬ 65536 < y) (hz0 : ¬ z < 31) (hz : 65536 < z) (w : World) :
    Calls Try.prog 6 #[.slice a len cap, .int .i64 x, .int .i64 y, .int .i64 z] w fun e w' => e = .returned (.bool true) ∧ Below w.heap.size w w' := by
  have h1 : ¬ (32768 : Int) < (len : Int) := by omega
  have hb := bytes23 a len cap x y z hml w
  have hl' : (len : Int) ≤ 9223372036854775807 := by unfold maxLen at hml; omega
  clear hml
  go_enter Try.func6, Try.ntmps6
  go_wp2_with fail
  refine hb.mono ?_
  rintro e w1 ⟨⟨bl, rfl⟩, rfl⟩
  cases bl
  · go_wp2
    go_ret
    exact ⟨rfl, Below.refl _ _⟩
  · go_wp2
    go_ret
    exact ⟨rfl, Below.refl _ _⟩

theorem walk (a : Option Addr) (len cap : Nat) (L : List Nd) (x y z : Int) (w : World) (hN : Nodes w a len L) (hml : len ≤ maxLen) :
    Calls Try.prog 6 #[.slice a len cap, .int .i64 x, .int .i64 y, .int .i64 z] w fun e w' => e = .returned (.bool true) ∧ Below w.heap.size w w' := by
  by_cases h : 32768 < len
  · exact out_len a len cap x y z hml h w
  have h' : len ≤ 32768 := by omega
  by_cases x1 : x < 1
  · exact out_x1 a len cap x y z hml h' x1 w
  by_cases x2 : 65536 < x
  · exact out_x2 a len cap x y z hml h' x1 x2 w
  by_cases y1 : y < 1
  · exact out_y1 a len cap x y z hml h' x1 x2 y1 w
  by_cases y2 : 65536 < y
  · exact out_y2 a len cap x y z hml h' x1 x2 y1 y2 w
  by_cases z1 : z < 31
  · exact out_z1 a len cap x y z hml h' x1 x2 y1 y2 z1 w
  by_cases z2 : 65536 < z
  · exact out_z2 a len cap x y z hml h' x1 x2 y1 y2 z1 z2 w
  obtain ⟨ra, rfl⟩ := Int.eq_ofNat_of_zero_le (show 0 ≤ x by omega)
  obtain ⟨rb, rfl⟩ := Int.eq_ofNat_of_zero_le (show 0 ≤ y by omega)
  obtain ⟨cs, rfl⟩ := Int.eq_ofNat_of_zero_le (show 0 ≤ z by omega)
  exact law6_main a len cap ra rb cs L w hN h' (by omega) (by omega) (by omega) (by omega) (by omega) (by omega)

set_option maxRecDepth 100000 in
theorem lifted (os : Os) (started : os.Started) (H : Type) (enc : TypeId × Value → H) :
    ReturnsInHanded {} Try.checked os 6 .any (Rows.fnTreeAddWritesTheSameBytesWhateverTheBatchRoomSpec.pre6 enc Try.prog Try.f6 Rows.fnTreeAddWritesTheSameBytesWhateverTheBatchRoomRow.domain false) (Rows.fnTreeAddWritesTheSameBytesWhateverTheBatchRoomSpec.post enc Try.prog Try.f6 false true false false) := by
  refine returnsInHanded_of_change (C := Try.checked) own started (by kernel_rfl) Try.func6
    (ChangeSpec.witness6 (enc := enc) (C := Try.checked) false ⟨#[], #[.slice none 0 0, .int .i64 0, .int .i64 0, .int .i64 0], []⟩ 8 (by kernel_rfl) (by kernel_rfl) (by kernel_rfl) (by kernel_rfl)) ?_
  intro W base args ds gs before hval0 hW hcnd _
  have hval : ∀ (j : Nat) t v, Try.f6.params[j]? = some t → args[j]? = some v → Value.okWide Try.prog W .any base t v := hval0
  have hW' := hW
  obtain ⟨p, q, hA0, hV, rfl, hfz, hnd⟩ := hW
  have hA : DataW.TrodAll enc Try.prog W 0 (fun _ => true) true Try.f6.params.toList args.toList ds p := hA0
  rw [Try.params6] at hA hval
  obtain ⟨v0, vs0, d0, ds0, p0, q0, hargs, rfl, rfl, h0, r0⟩ := trodAll_cons hA
  obtain ⟨v1, vs1, d1, ds1, p1, q1, rfl, rfl, rfl, h1, r1⟩ := trodAll_cons r0
  obtain ⟨v2, vs2, d2, ds2, p2, q2, rfl, rfl, rfl, h2, r2⟩ := trodAll_cons r1
  obtain ⟨v3, vs3, d3, ds3, p3, q3, rfl, rfl, rfl, h3, r3⟩ := trodAll_cons r2
  obtain ⟨rfl, rfl, rfl⟩ := trodAll_nil r3
  obtain rfl : args = #[v0, v1, v2, v3] := by cases args; simp_all
  obtain ⟨rfl, rfl⟩ := trodVars_none hV
  obtain ⟨a0, len0, cap0, rfl⟩ := okWide_slice Try.underlying32 (hval 0 32 v0 rfl rfl)
  have k0 := h0
  have lt0 : ∀ x ∈ p0, x.block < W.heap.size := by obtain ⟨m, hm⟩ := k0; exact DataW.trod_lt m _ _ _ hm
  obtain ⟨L, w0, hml⟩ : ∃ L, Nodes W a0 len0 L ∧ len0 ≤ maxLen := by
    obtain ⟨fuel, hf⟩ := h0
    exact open_nodes hf
  obtain ⟨a1, rfl, rfl, rfl, w1⟩ := open_int Try.underlying3 (hval 1 3 v1 rfl rfl) h1
  obtain ⟨a2, rfl, rfl, rfl, w2⟩ := open_int Try.underlying3 (hval 2 3 v2 rfl rfl) h2
  obtain ⟨a3, rfl, rfl, rfl, w3⟩ := open_int Try.underlying3 (hval 3 3 v3 rfl rfl) h3
  clear hA0 hval0
  refine (walk a0 len0 cap0 L a1 a2 a3 W w0 hml).mono fun e W' ⟨he, bel⟩ => ?_
  subst he
  exact ⟨_, rfl, _, _, _, [], _, [], hW', trodAll_mk1 (shut_bool Try.underlying4 _), (trodAll_cons_mk (Below.trod laidOut (by kernel_rfl) (of_decide_eq_true (by kernel_rfl)) k0 bel lt0) (trodAll_cons_mk (shut_int Try.underlying3 w1) (trodAll_cons_mk (shut_int Try.underlying3 w2) (trodAll_cons_mk (shut_int Try.underlying3 w3) trodAll_mk0)))), rfl, bel.frame _, fun h => by cases h⟩

theorem over : Rows.fnTreeAddWritesTheSameBytesWhateverTheBatchRoomRow.holds Try.pinned (OpenSpec.ofChange Rows.fnTreeAddWritesTheSameBytesWhateverTheBatchRoomSpec) :=
  OpenClaim.holds_of_wide 6 Try.f6 rfl rfl rfl rfl rfl rfl rfl ⟨rfl, rfl, rfl, rfl, rfl⟩ rfl rfl rfl rfl rfl (by kernel_rfl) Try.func6 (by kernel_rfl)
    (of_decide_eq_true (by kernel_rfl)) (by unfold Func.isWrapper; first | (rw [if_pos (by decide +kernel)]; kernel_rfl) | (rw [if_neg (by decide +kernel)]; exact ⟨rfl, rfl⟩))
    (fun os started H enc _ => lifted os started H enc)

/-- ████ THE STATEMENT ████ -/
theorem proved : Rows.FnTreeAddWritesTheSameBytesWhateverTheBatchRoomSaid := over
end Go.Proofs.Qxb6615701a.fnTreeAddWritesTheSameBytesWhateverTheBatchRoom
