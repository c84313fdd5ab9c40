/-
  encodeLong (37), a decoded node.
-/
import Derived.Test.Qxb6615701aTlong
namespace Go.Proofs.Qxb6615701a
open Go Go.RowKit
set_option linter.unusedVariables false

/-- What stands behind 'writable'. -/
structure Mid (w : World) (gt gl gb o cs : Nat) (v2 v3 v5 v6 : Value) (cur : List UInt8) (la ld : Int) (n : Nd) : Prop where
  tr : Tr w gt cs v2 v3 v5 v6 (chV gl cur.length cs) (.int .i64 la) (.int .i64 ld)
  ch : Ch w gl cs cur
  node : NodeAt w gb o n
  ne1 : gl ≠ gt
  ne2 : gb ≠ gl
  ne3 : gb ≠ gt
  room : cur.length + 31 ≤ cs

theorem Mid.drew {w : World} {gt gl gb o cs : Nat} {v2 v3 v5 v6 : Value} {cur : List UInt8} {la ld : Int} {n : Nd} (h : Mid w gt gl gb o cs v2 v3 v5 v6 cur la ld n) (d : Nat) : Mid (w.drewN d) gt gl gb o cs v2 v3 v5 v6 cur la ld n :=
  ⟨h.tr, h.ch.touch ((Touch.refl w (fun _ => False)).drew d) (fun h => h), h.node.touch ((Touch.refl w (fun _ => False)).drew d) (fun h => h), h.ne1, h.ne2, h.ne3, h.room⟩

theorem w64_walk' (z : Int) : IntKind.u64.wrap (IntKind.i64.wrap z) = ((w64 z : Nat) : Int) := by
  rw [IntKind.wrap_u64, IntKind.wrap_i64]
  unfold w64
  omega

theorem first_byte {w1 W : World} {gt gl gb o cs c : Nat} {z : Int} {v2 v3 v5 v6 v7 v10 v11 : Value} {cur : List UInt8} {n : Nd} (ob : Obj) (hz : z = ((c : Nat) : Int)) (hc : Ch W gl cs cur) (hq : Touch w1 W (fun k => k = gt ∨ k = gl)) (ht : Tr W gt cs v2 v3 v5 v6 v7 v10 v11) (hn : NodeAt W gb o n) (g1 : gl ≠ gt) (g2 : gb ≠ gl) (hr : cur.length < cs) (hb : c < 256) :
    Ch ((W.alloc ob).setCells gl (0 + cur.length * 1) [.int .u8 z]) gl cs (cur ++ [c.toUInt8]) ∧ Touch w1 ((W.alloc ob).setCells gl (0 + cur.length * 1) [.int .u8 z]) (fun k => k = gt ∨ k = gl) ∧ Tr ((W.alloc ob).setCells gl (0 + cur.length * 1) [.int .u8 z]) gt cs v2 v3 v5 v6 v7 v10 v11 ∧ NodeAt ((W.alloc ob).setCells gl (0 + cur.length * 1) [.int .u8 z]) gb o n := by
  subst hz
  have e : (W.alloc ob).setCells gl (0 + cur.length * 1) [.int .u8 (c : Int)] = (W.alloc ob).setCell ⟨gl, cur.length, none⟩ (.int .u8 (c : Int)) := by
    rw [Nat.mul_one, Nat.zero_add]; rfl
  rw [e]
  refine ⟨ch_push (hc.alloc ob) hr hb, (hq.alloc ob).set gl _ _ (fun _ => .inr rfl), (ht.touch ((Touch.refl _ (fun _ => False)).alloc _) (fun h => h)).other gl cur.length _ g1, ?_⟩
  exact hn.touch (((Touch.refl _ (fun k => k = gl)).alloc _).set gl cur.length _ (fun _ => rfl)) g2

set_option maxHeartbeats 4000000 in
set_option maxRecDepth 100000 in
theorem long_dec_raw (gt gb o cs : Nat) (hcs : cs ≤ 65536) (v2 v3 : Value) (cur : List UInt8) (la ld na ns ne : Int) (k x1 x2 x3 : Nat) (hk : k ≤ 4) (hne : (ne == -1) = false)
    (D1 : IntKind.u64.wrap (wrap64 (na - la)) = (x1 : Int)) (D2 : IntKind.u64.wrap (wrap64 (ne - ns)) = (x2 : Int)) (D3 : Hid (IntKind.u64.wrap (IntKind.i64.wrap (ns - ld)) = (x3 : Int)))
    (L1 : Hid (x1 < 18446744073709551616)) (L2 : Hid (x2 < 18446744073709551616)) (L3 : Hid (x3 < 18446744073709551616)) (w : World) (X : Nat → Value → Value → World → Prop)
    (hwr : Calls Try.prog 41 #[.pointer (some ⟨gt, 0, none⟩)] w fun e w1 => ∃ gl v5 v6, e = .returned (chV gl cur.length cs) ∧ Mid w1 gt gl gb o cs v2 v3 v5 v6 cur la ld ⟨k, true, na, ns, ne⟩ ∧ X gl v5 v6 w1) :
    Calls Try.prog 37 #[.pointer (some ⟨gt, 0, none⟩), .pointer (some ⟨gb, o, none⟩)] w fun e w' => e = .returned (.tuple #[]) ∧ ∃ gl v5 v6 w1, X gl v5 v6 w1 ∧ gl ≠ gt ∧ Touch w1 w' (fun k => k = gt ∨ k = gl) ∧
      Tr w' gt cs v2 v3 v5 v6 (chV gl (cur ++ [(k * 2 + 48).toUInt8] ++ Lib.uvarint x1 ++ Lib.uvarint x3 ++ Lib.uvarint x2).length cs) (.int .i64 na) (.int .i64 ne) ∧ Ch w' gl cs (cur ++ [(k * 2 + 48).toUInt8] ++ Lib.uvarint x1 ++ Lib.uvarint x3 ++ Lib.uvarint x2) := by
  obtain ⟨i0, hi, hz0, hz1, hz2⟩ := info_parts info5
  have u1 := Lib.uvarint_length64 L1.out
  have u2 := Lib.uvarint_length64 L2.out
  have u3 := Lib.uvarint_length64 L3.out
  have b16 := or16 k hk
  have b32 := or32 k hk
  have ecH : Hid ((k : Int) * 2 + 48 = ((k * 2 + 48 : Nat) : Int)) := hide (by omega)
  go_enter Try.func37, Try.ntmps37
  go_wp2_with fail
  refine hwr.mono ?_
  rintro e w1 ⟨gl, v5, v6, rfl, hmid, hX⟩
  clear hwr
  have M1 := hide hmid
  have HX := hide hX
  have g1 := hmid.ne1
  have g2 := hmid.ne2
  have g3 := hmid.ne3
  have g1' : ¬ gt = gl := fun e => g1 e.symm
  have g2' : ¬ gl = gb := fun e => g2 e.symm
  have g3' : ¬ gt = gb := fun e => g3 e.symm
  have hroom := hmid.room
  obtain ⟨c2, c3, c5, c6, c7, c8, c10, c11⟩ := hmid.tr.cells
  have hf := hmid.tr.frozen
  obtain ⟨d0, d1, d2, d3, d4⟩ := hmid.node
  simp only at d0 d1 d2 d3 d4
  clear hmid hX c2 c3 c5 c6 c8
  go_wp2_with fail
  go_quiet (fail)
  have M2 : Hid (Mid (w1.drewN nq) gt gl gb o cs v2 v3 v5 v6 cur la ld ⟨k, true, na, ns, ne⟩) := hide (M1.out.drew nq)
  have Q2 : Hid (Touch w1 (w1.drewN nq) (fun k => k = gt ∨ k = gl)) := hide ((Touch.refl _ _).drew nq)
  clear M1 c7 c10 c11 hf d0 d1 d2 d3 d4
  generalize w1.drewN nq = w2 at M2 Q2 ⊢
  obtain ⟨c2, c3, c5, c6, c7, c8, c10, c11⟩ := M2.out.tr.cells
  have hf := M2.out.tr.frozen
  obtain ⟨d0, d1, d2, d3, d4⟩ := M2.out.node
  simp only at d0 d1 d2 d3 d4
  have C2 : Ch (w2.setCell ⟨gt, 10, none⟩ (.int .i64 na)) gl cs cur := M2.out.ch.other gt 10 _ g1'
  have Q3 : Hid (Touch w1 (w2.setCell ⟨gt, 10, none⟩ (.int .i64 na)) (fun k => k = gt ∨ k = gl)) := hide (Q2.out.set gt 10 _ (fun _ => .inl rfl))
  have T3 : Hid (Tr (w2.setCell ⟨gt, 10, none⟩ (.int .i64 na)) gt cs v2 v3 v5 v6 (chV gl cur.length cs) (.int .i64 na) (.int .i64 ld)) := hide (M2.out.tr.set10 _)
  have N3 : Hid (NodeAt (w2.setCell ⟨gt, 10, none⟩ (.int .i64 na)) gb o ⟨k, true, na, ns, ne⟩) := hide (M2.out.node.touch ((Touch.refl _ (fun k => k = gt)).set gt 10 _ (fun _ => rfl)) g3)
  go_wp2_with (at_builtin; refine wpList_append_arg _ rfl _ _ 22 rfl 5 i0 (.int .u8 0) 1 1 Try.underlying22 hi hz0 hz1 hz2 rfl (by decide) gl 0 cur.length cs (Lib.byteCells cur) rfl ?c1 (C2.alloc _).cells ⟨w2.heap.size, 0, none⟩ 1 1 [Value.int .u8 ((k : Int) * 2 + 48)] rfl rfl ?c6 (one1 _) (spare_room _ C2 _) ?c2 ?c3 ?c4 ?c5)
  case c1 => rw [byteCells_length, Nat.mul_one]
  case c2 => unfold maxLen; omega
  case c3 => omega
  case c5 => intro h; omega
  case c6 =>
    have := new1 (w2.setCell ⟨gt, 10, none⟩ (.int .i64 na)) ((k : Int) * 2 + 48)
    rw [size_set] at this
    exact this
  have P := hide (first_byte (.cells #[.int .u8 ((k : Int) * 2 + 48)] 5) ecH.out C2 Q3.out T3.out N3.out g1 g2 (by omega) (by omega))
  clear C2 Q3 T3 N3 M2 Q2 c2 c3 c5 c6 c7 c8 c10 c11 hf d0 d1 d2 d3 d4
  intro _
  go_wp2_with fail
  rw [Nat.mul_one, Nat.zero_add] at P
  generalize ((w2.setCell ⟨gt, 10, none⟩ (.int .i64 na)).alloc (.cells #[.int .u8 ((k : Int) * 2 + 48)] 5)).setCells gl cur.length [.int .u8 ((k : Int) * 2 + 48)] = w4 at P ⊢
  obtain ⟨C4, Q4, T4, N4⟩ := P.out
  have hl4 : Hid (cur.length + 1 = (cur ++ [(k * 2 + 48).toUInt8]).length) := hide (by simp)
  refine (uv_room x1 L1.out gl cs hcs (cur ++ [(k * 2 + 48).toUInt8]) (by rw [← hl4.out]; omega) w4 C4 _ hl4.out).mono ?_
  rintro e w5 ⟨rfl, C5, Q5'⟩
  have T5 := T4.touch Q5' g1'
  have N5 := N4.touch Q5' g2
  have Q5 := Q4.trans Q5' (fun i _ e => .inr e)
  clear C4 Q4 T4 N4 Q5' P
  obtain ⟨c2, c3, c5, c6, c7, c8, c10, c11⟩ := T5.cells
  have hf := T5.frozen
  obtain ⟨d0, d1, d2, d3, d4⟩ := N5
  simp only at d0 d1 d2 d3 d4
  have HT5 := hide T5
  have HC5 := hide C5
  have HQ5 := hide Q5
  clear T5 C5 Q5 c2 c3 c5 c6 c8
  generalize hl5 : (cur ++ [(k * 2 + 48).toUInt8] ++ Lib.uvarint x1) = l5 at HC5 ⊢
  have hl5' : Hid (l5.length ≤ cur.length + 11) := hide (by rw [← hl5, List.length_append, ← hl4.out]; omega)
  have HL5 := hide hl5
  clear hl5
  go_wp2_with fail
  have hC5d : Ch w5.drew gl cs l5 := HC5.out.touch ((Touch.refl w5 (fun _ => False)).drew 1) (fun h => h)
  have HCD := hide hC5d
  clear hC5d
  have hl3 : Hid (l5.length + (Lib.uvarint x3).length ≤ cs) := hide (by have := hl5'.out; omega)
  go_region_with (go_at_call 42; rw [D3.out]; refine (uv_room x3 L3.out gl cs hcs l5 hl3.out w5.drew HCD.out l5.length rfl).mono ?_; rintro e w6 ⟨rfl, C6, Q6'⟩; have T6 := hide ((HT5.out.touch ((Touch.refl w5 (fun _ => False)).drew 1) (fun h => h)).touch Q6' g1'); have HC6 := hide C6; have HQ6 := hide ((HQ5.out.drew 1).trans Q6' (fun i _ e => .inr e)); have hf6 := T6.out.frozen; obtain ⟨k2, k3, k5, k6, k7, k8, k10, k11⟩ := T6.out.cells; have hdd := ((Touch.refl w5 (fun k => k = gl)).drew 1).trans Q6' (fun _ _ e => e); have m4 := hdd.cell d4 g2; clear C6 Q6' k2 k3 k5 k6 k8 hdd)
  all_goals go_wp2_with fail
  all_goals refine (uv_room x2 L2.out gl cs hcs (l5 ++ Lib.uvarint x3) (by rw [List.length_append]; have := hl5'.out; omega) (w6.setCell ⟨gt, 11, none⟩ (.int .i64 ne)) (HC6.out.other gt 11 _ g1') (l5.length + (Lib.uvarint x3).length) List.length_append.symm).mono ?_
  all_goals rintro e w7 ⟨rfl, C7, Q7'⟩
  all_goals have T7 := (T6.out.set11 (.int .i64 ne)).touch Q7' g1'
  all_goals have Q7 := (HQ6.out.set gt 11 (.int .i64 ne) (fun _ => .inl rfl)).trans Q7' (fun i _ e => .inr e)
  all_goals have hf7 := T7.frozen
  all_goals obtain ⟨j2, j3, j5, j6, j7, j8, j10, j11⟩ := T7.cells
  all_goals have HT7 := hide T7
  all_goals have HC7 := hide C7
  all_goals have HQ7 := hide Q7
  all_goals clear T7 C7 Q7 Q7' c7 c10 c11 hf d0 d1 d2 d3 d4
  all_goals go_wp2
  all_goals go_end0
  all_goals
    rw [HL5.out]
    refine ⟨rfl, gl, v5, v6, w1, HX.out, g1, HQ7.out.set gt 7 _ (fun _ => .inl rfl), ?_, HC7.out.other gt 7 _ g1'⟩
    have := HT7.out.set7 (chV gl (l5 ++ Lib.uvarint x3 ++ Lib.uvarint x2).length cs)
    simpa [List.length_append] using this
end Go.Proofs.Qxb6615701a
