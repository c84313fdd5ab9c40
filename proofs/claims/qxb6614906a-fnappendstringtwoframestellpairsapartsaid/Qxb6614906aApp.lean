/-
  AppendUvarint (19) onto an owned row; appendString (18), ZZappendString (12).
-/
import Derived.Test.Qxb6614906aUv
import Derived.Lib.Strings
namespace Go.Proofs.Qxb6614906a
open Go Go.RowKit
set_option linter.unusedVariables false

theorem after_own' {w wr w' : World} {B : Nat} (hBw : B ≤ w.heap.size) {o : Obj} {v v0 : Value} {n n0 : Nat} {l : List UInt8} {c : Nat} (hc : c < 256) (h0 : wr.ownsRow B 5 1 v0 n0 (Lib.byteCells l)) (hb : Below B w wr) (hown : w'.ownsRow B 5 1 v (n + 1) (Lib.byteCells l ++ [Value.int .u8 (c : Int)])) (hg : (wr.alloc o).grownBy w' v0.ownBlock) :
    w'.ownsRow B 5 1 v (n + 1) (Lib.byteCells (l ++ [c.toUInt8])) ∧ Below B w w' := by
  have hs := hb.size
  refine ⟨?_, (hb.alloc (by omega) _).grown hg (by simp; omega) (fun k hk => (h0.lt k hk).1)⟩
  rw [Lib.byteCells_snoc l hc]
  exact hown

set_option maxHeartbeats 800000 in
set_option maxRecDepth 100000 in
theorem uv_own (x : Nat) (hx : x ≤ 1048576) (v : Value) (l : List UInt8) (hl : l.length ≤ 4194304) (B : Nat) (w : World) (hBw : B ≤ w.heap.size) (hv : w.ownsRow B 5 1 v l.length (Lib.byteCells l)) :
    Calls Try.prog 19 #[v, .int .u64 x] w fun e w' => ∃ v', e = .returned v' ∧ w'.ownsRow B 5 1 v' (l.length + (Lib.uvarint x).length) (Lib.byteCells (l ++ Lib.uvarint x)) ∧ Below B w w' := by
  have HV := hide hv
  clear hv
  obtain ⟨i0, hi, hz0, hz1, hz2⟩ := info_parts info5
  have hlen := Lib.uvarint_length64 (x := x) (by omega)
  go_enter Try.func19, Try.ntmps19
  go_wp2
  go_loopw [0, 1] (fun vb vx wr => ∃ (y : Nat) (pre : List UInt8), vx = .int .u64 y ∧ y ≤ x ∧ Hid (Lib.uvarint x = pre ++ Lib.uvarint y) ∧ wr.ownsRow B 5 1 vb (l.length + pre.length) (Lib.byteCells (l ++ pre)) ∧ Below B w wr)
    (fun _ vx _ => (intOf vx).toNat)
  case atStart => exact ⟨x, [], rfl, Nat.le_refl _, rfl, by rw [List.append_nil]; exact unhide HV, Below.refl _ _⟩
  case round =>
    obtain ⟨y, pre, rfl, hy, hsp, hown1, hnx⟩ := hrel
    have hpl : pre.length + (Lib.uvarint y).length ≤ 10 := by
      have h2 := congrArg List.length hsp.out
      rw [List.length_append] at h2
      omega
    have hyp := Lib.uvarint_pos y
    by_cases h128 : 128 ≤ y
    · have hor : bits .or .u8 ((y : Int) % 256) 128 = (y : Int) % 128 + 128 := by
        rw [Lib.u8_or128_any _ (by omega) (by omega)]
        omega
      have ec : (y : Int) % 128 + 128 = ((y % 128 + 128 : Nat) : Int) := by omega
      have EC := hide ec
      clear ec
      have hsp2 : Hid (Lib.uvarint x = (pre ++ [(y % 128 + 128).toUInt8]) ++ Lib.uvarint (y / 128)) := by
        show _ = _
        rw [hsp.out, Lib.uvarint_big h128]; simp
      clear hsp
      go_wp2_with (at_builtin; refine wpList_append_own _ rfl _ _ 25 rfl B 5 i0 (.int .u8 0) 1 1 Try.underlying25 hi hz0 hz1 hz2 rfl (by decide) _ _ _ rfl (hown1.alloc _) ⟨wr.heap.size, 0, none⟩ 1 1 [Value.int .u8 ((y : Int) % 128 + 128)] rfl rfl (new1 _ _) (one1 _) (by unfold maxLen; omega) (by omega) (by have := hnx.size; simp; omega) ?_)
      intro v' w1 hown' hgrow _
      rw [unhide EC] at hown'
      have R := after_own' (c := y % 128 + 128) hBw (by omega) hown1 hnx hown' hgrow
      rw [List.append_assoc] at R
      have R' := hide R
      clear hown' hgrow R hown1
      go_wp2
      go_roundw
      case rel => exact ⟨y / 128, pre ++ [(y % 128 + 128).toUInt8], by go_num, by omega, hsp2, by rw [List.length_append, List.length_singleton, ← Nat.add_assoc]; exact (unhide R').1, (unhide R').2⟩
      case measure => simp [intOf]; omega
    · have hsp2 : Hid (Lib.uvarint x = pre ++ [y.toUInt8]) := by
        show _ = _
        rw [hsp.out, Lib.uvarint_small (by omega)]
      clear hsp
      have y256 : (y : Int) % 256 = y := by omega
      go_wp2_with (at_builtin; refine wpList_append_own _ rfl _ _ 25 rfl B 5 i0 (.int .u8 0) 1 1 Try.underlying25 hi hz0 hz1 hz2 rfl (by decide) _ _ _ rfl (hown1.alloc _) ⟨wr.heap.size, 0, none⟩ 1 1 [Value.int .u8 (y : Int)] rfl rfl (new1 _ _) (one1 _) (by unfold maxLen; omega) (by omega) (by have := hnx.size; simp; omega) ?_)
      intro v' w1 hown' hgrow _
      have R := after_own' (c := y) hBw (by omega) hown1 hnx hown' hgrow
      rw [List.append_assoc] at R
      have R' := hide R
      clear hown' hgrow R hown1
      go_wp2
      go_ret
      exact ⟨v', rfl, by rw [hsp2.out, List.length_append, List.length_singleton, ← Nat.add_assoc]; exact (unhide R').1, (unhide R').2⟩

theorem strCells_eq (s : ByteArray) : Lib.strCells s = Lib.byteCells s.data.toList := rfl

/-- What a string's frame adds. -/
def Apps (B : Nat) (w w' : World) (v' : Value) (l : List UInt8) (s : ByteArray) : Prop :=
  w'.ownsRow B 5 1 v' (l ++ Plain.frame s.data.toList).length (Lib.byteCells (l ++ Plain.frame s.data.toList)) ∧ Below B w w'

set_option maxHeartbeats 400000 in
/-- appendString, AppendUvarint's answer known. -/
theorem app_of (v : Value) (l : List UInt8) (s : ByteArray) (hl : l.length ≤ 4194304) (hs : s.size ≤ 1048576) (B : Nat) (w : World) (hBw : B ≤ w.heap.size)
    (H : Calls Try.prog 19 #[v, .int .u64 s.size] w fun e w' => ∃ v', e = .returned v' ∧ w'.ownsRow B 5 1 v' (l.length + (Lib.uvarint s.size).length) (Lib.byteCells (l ++ Lib.uvarint s.size)) ∧ Below B w w') :
    Calls Try.prog 18 #[v, .string s] w fun e w' => ∃ v', e = .returned v' ∧ Apps B w w' v' l s := by
  have HH := hide H
  clear H
  have hu := Lib.uvarint_length64 (x := s.size) (by omega)
  obtain ⟨i0, hi, hz0, hz1, hz2⟩ := info_parts info5
  go_enter Try.func18, Try.ntmps18
  go_wp2_with fail
  refine (unhide HH).mono ?_
  rintro e W1 ⟨v1, rfl, hown, hb⟩
  have hsz := hb.size
  go_wp2_with (at_builtin; refine Lib.wpList_append_own_string _ rfl _ _ 25 9 rfl B 5 i0 Try.underlying25 Try.underlying9 hi hz0 hz1 hz2 _ _ _ rfl hown s rfl (by unfold maxLen; omega) (by omega) (by omega) ?_)
  intro v' w' hown' hgrow _
  have R : Apps B w w' v' l s := by
    refine ⟨?_, hb.grown hgrow (by omega) (fun k hk => (hown.lt k hk).1)⟩
    have e : l ++ Plain.frame s.data.toList = (l ++ Lib.uvarint s.size) ++ s.data.toList := by
      rw [Plain.frame, List.append_assoc, ← Lib.size_eq]
    rw [e, List.length_append, List.length_append, ← Lib.size_eq, byteCells_append, ← strCells_eq]
    exact hown'
  have R' := hide R
  clear R hown hown' hgrow
  go_wp2
  go_ret
  exact ⟨v', rfl, unhide R'⟩

theorem app12 (v : Value) (l : List UInt8) (s : ByteArray) (B : Nat) (w : World) (H : Calls Try.prog 18 #[v, .string s] w fun e w' => ∃ v', e = .returned v' ∧ Apps B w w' v' l s) :
    Calls Try.prog 12 #[v, .string s] w fun e w' => ∃ v', e = .returned v' ∧ Apps B w w' v' l s := by
  have HH := hide H
  clear H
  go_enter Try.func12, Try.ntmps12
  go_wp2_with (go_at_call 18; refine (unhide HH).mono ?_; rintro e W1 ⟨v1, rfl, hA⟩)
  have R' := hide hA
  clear hA
  go_wp2
  go_ret
  exact ⟨v1, rfl, unhide R'⟩

theorem app_full (v : Value) (l : List UInt8) (s : ByteArray) (hl : l.length ≤ 1048576) (hs : s.size ≤ 1048576) (w : World) (hv : Full w v l) :
    Calls Try.prog 12 #[v, .string s] w fun e w' => ∃ v', e = .returned v' ∧ Apps w.heap.size w w' v' l s :=
  app12 v l s _ w (app_of v l s (by omega) hs _ w (Nat.le_refl _) (uv_full s.size hs v l hl w hv))

theorem app_own (v : Value) (l : List UInt8) (s : ByteArray) (hl : l.length ≤ 4194304) (hs : s.size ≤ 1048576) (B : Nat) (w : World) (hBw : B ≤ w.heap.size) (hv : w.ownsRow B 5 1 v l.length (Lib.byteCells l)) :
    Calls Try.prog 12 #[v, .string s] w fun e w' => ∃ v', e = .returned v' ∧ Apps B w w' v' l s :=
  app12 v l s _ w (app_of v l s hl hs B w hBw (uv_own s.size hs v l hl B w hBw hv))
end Go.Proofs.Qxb6614906a
