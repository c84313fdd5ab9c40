/-
  encodeLong (37), a node whose text is in the document.
-/
import Derived.Test.Qxb6615701aTlongd
namespace Go.Proofs.Qxb6615701a
open Go Go.RowKit
set_option linter.unusedVariables false

set_option maxHeartbeats 4000000 in
set_option maxRecDepth 100000 in
theorem long_doc_raw (gt gb o cs : Nat) (hcs : cs ≤ 65536) (v2 v3 : Value) (cur : List UInt8) (la ld na ns ne : Int) (k x1 x2 c : Nat) (hk : k ≤ 4) (hne : (ne == -1) = false) (HCC : Hid ((na < ns ∧ c = k * 2 + 17) ∨ (¬ na < ns ∧ c = k * 2 + 16)))
    (D1 : IntKind.u64.wrap (wrap64 (na - la)) = (x1 : Int)) (D2 : IntKind.u64.wrap (wrap64 (ne - ns)) = (x2 : Int))
    (L1 : Hid (x1 < 18446744073709551616)) (L2 : Hid (x2 < 18446744073709551616)) (w : World) (X : Nat → Value → Value → World → Prop)
    (hwr : Calls Try.prog 41 #[.pointer (some ⟨gt, 0, none⟩)] w fun e w1 => ∃ gl v5 v6, e = .returned (chV gl cur.length cs) ∧ Mid w1 gt gl gb o cs v2 v3 v5 v6 cur la ld ⟨k, false, na, ns, ne⟩ ∧ X gl v5 v6 w1) :
    Calls Try.prog 37 #[.pointer (some ⟨gt, 0, none⟩), .pointer (some ⟨gb, o, none⟩)] w fun e w' => e = .returned (.tuple #[]) ∧ ∃ gl v5 v6 w1, X gl v5 v6 w1 ∧ gl ≠ gt ∧ Touch w1 w' (fun k => k = gt ∨ k = gl) ∧
      Tr w' gt cs v2 v3 v5 v6 (chV gl (cur ++ [c.toUInt8] ++ Lib.uvarint x1 ++ Lib.uvarint x2).length cs) (.int .i64 na) (.int .i64 ld) ∧ Ch w' gl cs (cur ++ [c.toUInt8] ++ Lib.uvarint x1 ++ Lib.uvarint x2) := by
  obtain ⟨i0, hi, hz0, hz1, hz2⟩ := info_parts info5
  have u1 := Lib.uvarint_length64 L1.out
  have u2 := Lib.uvarint_length64 L2.out
  have b16 := or16 k hk
  have b1 := or1 k hk
  go_enter Try.func37, Try.ntmps37
  go_wp2_with fail
  refine hwr.mono ?_
  rintro e w1 ⟨gl, v5, v6, rfl, hmid, hX⟩
  clear hwr
  have M1 := hide hmid
  have HX := hide hX
  have g1 := hmid.ne1
  have g2 := hmid.ne2
  have g3 := hmid.ne3
  have g1' : ¬ gt = gl := fun e => g1 e.symm
  have g2' : ¬ gl = gb := fun e => g2 e.symm
  have g3' : ¬ gt = gb := fun e => g3 e.symm
  have hroom := hmid.room
  obtain ⟨c2, c3, c5, c6, c7, c8, c10, c11⟩ := hmid.tr.cells
  have hf := hmid.tr.frozen
  obtain ⟨d0, d1, d2, d3, d4⟩ := hmid.node
  simp only at d0 d1 d2 d3 d4
  clear hmid hX c2 c3 c5 c6 c8
  go_wp2_with fail
  go_quiet (fail)
  have M2 : Hid (Mid (w1.drewN nq) gt gl gb o cs v2 v3 v5 v6 cur la ld ⟨k, false, na, ns, ne⟩) := hide (M1.out.drew nq)
  have Q2 : Hid (Touch w1 (w1.drewN nq) (fun k => k = gt ∨ k = gl)) := hide ((Touch.refl _ _).drew nq)
  clear M1 c7 c10 c11 hf d0 d1 d2 d3 d4
  generalize w1.drewN nq = w2 at M2 Q2 ⊢
  obtain ⟨c2, c3, c5, c6, c7, c8, c10, c11⟩ := M2.out.tr.cells
  have hf := M2.out.tr.frozen
  obtain ⟨d0, d1, d2, d3, d4⟩ := M2.out.node
  simp only at d0 d1 d2 d3 d4
  go_wp2_with fail
  rename_i Kx ax
  clear nq
  go_quiet (fail)
  have C2 : Hid (Ch ((w2.setCell ⟨gt, 10, none⟩ (.int .i64 na)).drewN nq) gl cs cur) := hide ((M2.out.ch.other gt 10 _ g1').touch ((Touch.refl _ (fun _ => False)).drew nq) (fun h => h))
  have Q3 : Hid (Touch w1 ((w2.setCell ⟨gt, 10, none⟩ (.int .i64 na)).drewN nq) (fun k => k = gt ∨ k = gl)) := hide ((Q2.out.set gt 10 _ (fun _ => .inl rfl)).drew nq)
  have T3 : Hid (Tr ((w2.setCell ⟨gt, 10, none⟩ (.int .i64 na)).drewN nq) gt cs v2 v3 v5 v6 (chV gl cur.length cs) (.int .i64 na) (.int .i64 ld)) := hide (M2.out.tr.set10 (.int .i64 na))
  have N3 : Hid (NodeAt ((w2.setCell ⟨gt, 10, none⟩ (.int .i64 na)).drewN nq) gb o ⟨k, false, na, ns, ne⟩) := hide (M2.out.node.touch (((Touch.refl _ (fun k => k = gt)).set gt 10 _ (fun _ => rfl)).drew nq) g3)
  clear c2 c3 c5 c6 c7 c8 c10 c11 hf d0 d1 d2 d3 d4 M2 Q2
  generalize (w2.setCell ⟨gt, 10, none⟩ (.int .i64 na)).drewN nq = w3 at C2 Q3 T3 N3 ⊢
  have C3 := C2.out
  by_cases hs : na < ns
  · have ecH : Hid ((k : Int) * 2 + 17 = (c : Int)) := hide (by rcases HCC.out with ⟨h, h'⟩ | ⟨h, h'⟩ <;> omega)
    have hc256 : Hid (c < 256) := hide (by rcases HCC.out with ⟨h, h'⟩ | ⟨h, h'⟩ <;> omega)
    go_wp2_with (at_builtin; refine wpList_append_arg _ rfl _ _ 22 rfl 5 i0 (.int .u8 0) 1 1 Try.underlying22 hi hz0 hz1 hz2 rfl (by decide) gl 0 cur.length cs (Lib.byteCells cur) rfl ?c1 (C3.alloc _).cells ⟨w3.heap.size, 0, none⟩ 1 1 [Value.int .u8 ((k : Int) * 2 + 17)] rfl rfl (new1 _ _) (one1 _) (spare_room _ C3 _) ?c2 ?c3 ?c4 ?c5)
    case c1 => simp [byteCells_length]
    case c2 => unfold maxLen; omega
    case c3 => omega
    case c5 => intro h; omega
    have P := hide (first_byte (.cells #[.int .u8 ((k : Int) * 2 + 17)] 5) ecH.out C3 Q3.out T3.out N3.out g1 g2 (by omega) hc256.out)
    clear C3 C2 Q3 T3 N3
    intro _
    go_wp2_with fail
    rw [Nat.mul_one, Nat.zero_add] at P
    generalize (w3.alloc (.cells #[.int .u8 ((k : Int) * 2 + 17)] 5)).setCells gl cur.length [.int .u8 ((k : Int) * 2 + 17)] = w4 at P ⊢
    obtain ⟨C4, Q4, T4, N4⟩ := P.out
    have hl4 : Hid (cur.length + 1 = (cur ++ [c.toUInt8]).length) := hide (by simp)
    refine (uv_room x1 L1.out gl cs hcs (cur ++ [c.toUInt8]) (by rw [← hl4.out]; omega) w4 C4 _ hl4.out).mono ?_
    rintro e w5 ⟨rfl, C5, Q5'⟩
    have T5 := T4.touch Q5' g1'
    have Q5 := Q4.trans Q5' (fun i _ e => .inr e)
    clear C4 Q4 T4 N4 Q5' P
    obtain ⟨c2, c3, c5, c6, c7, c8, c10, c11⟩ := T5.cells
    have hf := T5.frozen
    have HT5 := hide T5
    have HC5 := hide C5
    have HQ5 := hide Q5
    clear T5 C5 Q5 c2 c3 c5 c6 c8
    generalize hl5 : (cur ++ [c.toUInt8] ++ Lib.uvarint x1) = l5 at HC5 ⊢
    have hl5' : Hid (l5.length ≤ cur.length + 11) := hide (by rw [← hl5, List.length_append, ← hl4.out]; omega)
    have HL5 := hide hl5
    clear hl5
    go_wp2_with fail
    refine (uv_room x2 L2.out gl cs hcs l5 (by have := hl5'.out; omega) w5 HC5.out l5.length rfl).mono ?_
    rintro e w7 ⟨rfl, C7, Q7'⟩
    have T7 := HT5.out.touch Q7' g1'
    have Q7 := HQ5.out.trans Q7' (fun i _ e => .inr e)
    have hf7 := T7.frozen
    obtain ⟨j2, j3, j5, j6, j7, j8, j10, j11⟩ := T7.cells
    have HT7 := hide T7
    have HC7 := hide C7
    have HQ7 := hide Q7
    clear T7 C7 Q7 Q7' c7 c10 c11 hf
    go_wp2
    go_end0
    rw [HL5.out]
    refine ⟨rfl, gl, v5, v6, w1, HX.out, g1, HQ7.out.set gt 7 _ (fun _ => .inl rfl), ?_, HC7.out.other gt 7 _ g1'⟩
    have := HT7.out.set7 (chV gl (l5 ++ Lib.uvarint x2).length cs)
    simpa [List.length_append] using this
  · have ecH : Hid ((k : Int) * 2 + 16 = (c : Int)) := hide (by rcases HCC.out with ⟨h, h'⟩ | ⟨h, h'⟩ <;> omega)
    have hc256 : Hid (c < 256) := hide (by rcases HCC.out with ⟨h, h'⟩ | ⟨h, h'⟩ <;> omega)
    go_wp2_with (at_builtin; refine wpList_append_arg _ rfl _ _ 22 rfl 5 i0 (.int .u8 0) 1 1 Try.underlying22 hi hz0 hz1 hz2 rfl (by decide) gl 0 cur.length cs (Lib.byteCells cur) rfl ?d1 (C3.alloc _).cells ⟨w3.heap.size, 0, none⟩ 1 1 [Value.int .u8 ((k : Int) * 2 + 16)] rfl rfl (new1 _ _) (one1 _) (spare_room _ C3 _) ?d2 ?d3 ?d4 ?d5)
    case d1 => simp [byteCells_length]
    case d2 => unfold maxLen; omega
    case d3 => omega
    case d5 => intro h; omega
    have P := hide (first_byte (.cells #[.int .u8 ((k : Int) * 2 + 16)] 5) ecH.out C3 Q3.out T3.out N3.out g1 g2 (by omega) hc256.out)
    clear C3 C2 Q3 T3 N3
    intro _
    go_wp2_with fail
    rw [Nat.mul_one, Nat.zero_add] at P
    generalize (w3.alloc (.cells #[.int .u8 ((k : Int) * 2 + 16)] 5)).setCells gl cur.length [.int .u8 ((k : Int) * 2 + 16)] = w4 at P ⊢
    obtain ⟨C4, Q4, T4, N4⟩ := P.out
    have hl4 : Hid (cur.length + 1 = (cur ++ [c.toUInt8]).length) := hide (by simp)
    refine (uv_room x1 L1.out gl cs hcs (cur ++ [c.toUInt8]) (by rw [← hl4.out]; omega) w4 C4 _ hl4.out).mono ?_
    rintro e w5 ⟨rfl, C5, Q5'⟩
    have T5 := T4.touch Q5' g1'
    have Q5 := Q4.trans Q5' (fun i _ e => .inr e)
    clear C4 Q4 T4 N4 Q5' P
    obtain ⟨c2, c3, c5, c6, c7, c8, c10, c11⟩ := T5.cells
    have hf := T5.frozen
    have HT5 := hide T5
    have HC5 := hide C5
    have HQ5 := hide Q5
    clear T5 C5 Q5 c2 c3 c5 c6 c8
    generalize hl5 : (cur ++ [c.toUInt8] ++ Lib.uvarint x1) = l5 at HC5 ⊢
    have hl5' : Hid (l5.length ≤ cur.length + 11) := hide (by rw [← hl5, List.length_append, ← hl4.out]; omega)
    have HL5 := hide hl5
    clear hl5
    go_wp2_with fail
    refine (uv_room x2 L2.out gl cs hcs l5 (by have := hl5'.out; omega) w5 HC5.out l5.length rfl).mono ?_
    rintro e w7 ⟨rfl, C7, Q7'⟩
    have T7 := HT5.out.touch Q7' g1'
    have Q7 := HQ5.out.trans Q7' (fun i _ e => .inr e)
    have hf7 := T7.frozen
    obtain ⟨j2, j3, j5, j6, j7, j8, j10, j11⟩ := T7.cells
    have HT7 := hide T7
    have HC7 := hide C7
    have HQ7 := hide Q7
    clear T7 C7 Q7 Q7' c7 c10 c11 hf
    go_wp2
    go_end0
    rw [HL5.out]
    refine ⟨rfl, gl, v5, v6, w1, HX.out, g1, HQ7.out.set gt 7 _ (fun _ => .inl rfl), ?_, HC7.out.other gt 7 _ g1'⟩
    have := HT7.out.set7 (chV gl (l5 ++ Lib.uvarint x2).length cs)
    simpa [List.length_append] using this
end Go.Proofs.Qxb6615701a
