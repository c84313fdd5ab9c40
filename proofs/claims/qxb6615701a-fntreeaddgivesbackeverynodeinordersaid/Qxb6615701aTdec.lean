/-
  zzDecodeTree (21).
-/
import Derived.Test.Qxb6615701aTuvd
import Derived.Deep.Onto
namespace Go.Proofs.Qxb6615701a
open Go Go.RowKit
set_option linter.unusedVariables false

theorem info36 : (Try.prog.info? 36).map (fun i => (i.zero, i.size, i.bytes)) = some (some (.agg #[.int .u8 0, .bool false, .int .i64 0, .int .i64 0, .int .i64 0]), 5, 32) := by kernel_rfl

def cellsOf (L : List Nd) : List Value := L.flatMap Nd.cells

theorem nb_ne (cs : Nat) (S : PS) (n : Nd) : S.nb cs n ≠ [] := by
  unfold PS.nb
  split
  · simp
  · intro h
    have := (longBytes_len S.la S.ld n).1
    rw [h] at this
    simp at this

/-- What the header of the short form says. -/
theorem hds_bits (k : Nat) (hk : k ≤ 4) (b : Nat) (hb : b ≤ 1) : bits .and .u8 (((k * 2 + b : Nat) : Int) / 2) 7 = (k : Int) ∧ bits .and .u8 ((k * 2 + b : Nat) : Int) 16 = 0 ∧ bits .and .u8 ((k * 2 + b : Nat) : Int) 1 = (b : Int) := by
  match k, hk, b, hb with
  | 0, _, 0, _ => decide
  | 1, _, 0, _ => decide
  | 2, _, 0, _ => decide
  | 3, _, 0, _ => decide
  | 4, _, 0, _ => decide
  | 0, _, 1, _ => decide
  | 1, _, 1, _ => decide
  | 2, _, 1, _ => decide
  | 3, _, 1, _ => decide
  | 4, _, 1, _ => decide
/-- What the header of the long form says. -/
theorem hdr_bits (k : Nat) (hk : k ≤ 4) (b : Nat) (hb : b ≤ 1) : bits .and .u8 (((k * 2 + 16 + b : Nat) : Int) / 2) 7 = (k : Int) ∧ bits .and .u8 ((k * 2 + 16 + b : Nat) : Int) 16 = 16 ∧ bits .and .u8 ((k * 2 + 16 + b : Nat) : Int) 1 = (b : Int) ∧ bits .and .u8 ((k * 2 + 16 + b : Nat) : Int) 64 = 0 ∧ bits .and .u8 ((k * 2 + 16 + b : Nat) : Int) 32 = 0 := by
  match k, hk, b, hb with
  | 0, _, 0, _ => decide
  | 1, _, 0, _ => decide
  | 2, _, 0, _ => decide
  | 3, _, 0, _ => decide
  | 4, _, 0, _ => decide
  | 0, _, 1, _ => decide
  | 1, _, 1, _ => decide
  | 2, _, 1, _ => decide
  | 3, _, 1, _ => decide
  | 4, _, 1, _ => decide
/-- What the header of a decoded node says. -/
theorem hdd_bits (k : Nat) (hk : k ≤ 4) : bits .and .u8 (((k * 2 + 48 : Nat) : Int) / 2) 7 = (k : Int) ∧ bits .and .u8 ((k * 2 + 48 : Nat) : Int) 16 = 16 ∧ bits .and .u8 ((k * 2 + 48 : Nat) : Int) 64 = 0 ∧ bits .and .u8 ((k * 2 + 48 : Nat) : Int) 32 = 32 := by
  match k, hk with
  | 0, _ => decide
  | 1, _ => decide
  | 2, _ => decide
  | 3, _ => decide
  | 4, _ => decide

theorem one {w : World} {g cap p a : Nat} {l rest : List UInt8} (h : l.drop p = a.toUInt8 :: rest) (ha : a < 256) (hc : Ch w g cap l) : w.cell? ⟨g, p, none⟩ = some (.int .u8 (a : Int)) ∧ p < l.length ∧ l.drop (p + 1) = rest := by
  obtain ⟨hq, h1, h2⟩ := drop_head h rfl
  refine ⟨?_, hq, h2⟩
  have := hc.cellAt p hq
  rw [h1] at this
  rw [this, Nat.toUInt8, UInt8.toNat_ofNat']
  congr 2
  omega

theorem news36 (w2 : World) (A : Obj) (n : Nd) : ∀ j u, n.cells[j]? = some u → ((w2.alloc A).alloc (.cells #[.int .u8 (n.k : Int), .bool n.dec, .int .i64 n.a, .int .i64 n.s, .int .i64 n.e] 36)).cell? ((⟨w2.heap.size + 1, 0, none⟩ : Addr).add j) = some u := by
  intro j u hj
  have e1 : (w2.alloc A).heap.size = w2.heap.size + 1 := by simp
  have hb : ((w2.alloc A).alloc (.cells #[.int .u8 (n.k : Int), .bool n.dec, .int .i64 n.a, .int .i64 n.s, .int .i64 n.e] 36)).heap[w2.heap.size + 1]? = some (.cells #[.int .u8 (n.k : Int), .bool n.dec, .int .i64 n.a, .int .i64 n.s, .int .i64 n.e] 36 (0, 0)) := by
    rw [← e1]; exact heap_alloc_new _ _
  generalize (w2.alloc A).alloc (.cells #[.int .u8 (n.k : Int), .bool n.dec, .int .i64 n.a, .int .i64 n.s, .int .i64 n.e] 36) = W at hb
  rw [Addr.add_lit, Nat.zero_add, ← hj]
  simp only [World.cell?, hb]
  simp [Nd.cells]

/-- Behind the append. -/
theorem after_dec {w wr w1 : World} {A B : Obj} {v v' : Value} {j : Nat} {L : List Nd} {n : Nd} (hown : wr.ownsRow w.heap.size 36 5 v j (cellsOf L)) (ht : Touch w wr (fun _ => False)) (h1 : w1.ownsRow w.heap.size 36 5 v' (j + 1) (cellsOf L ++ n.cells)) (hg : ((wr.alloc A).alloc B).grownBy w1 v.ownBlock) :
    w1.ownsRow w.heap.size 36 5 v' (j + 1) (cellsOf (L ++ [n])) ∧ Touch w w1 (fun _ => False) := by
  refine ⟨?_, ?_⟩
  · have e : cellsOf (L ++ [n]) = cellsOf L ++ n.cells := by simp [cellsOf]
    rw [e]; exact h1
  · have t2 := (ht.alloc A).alloc B
    refine ⟨hg.os.trans t2.os, hg.tape.trans t2.tape, hg.output.trans t2.output, Nat.le_trans t2.size hg.size, fun k hk hn => ?_⟩
    rw [hg.block k (Nat.lt_of_lt_of_le hk t2.size) (fun h => ?_)]
    · exact t2.block k hk hn
    · have := (hown.lt k h.symm).1
      omega

set_option maxHeartbeats 4000000 in
set_option maxRecDepth 100000 in
theorem decode_ok (cs cap : Nat) (P : List Nd) (hP : ∀ n ∈ P, n.addable ∧ n.wf) (hPl : P.length ≤ 32768) (ao : Option Addr) (l : List UInt8) (hle : l.length ≤ 2000000) (hl : l = bytesFrom cs PS.init P) (w : World) (hs : l = [] ∨ ∃ g, ao = some ⟨g, 0, none⟩ ∧ Ch w g cap l ∧ cap ≤ maxLen) :
    Calls Try.prog 21 #[.slice ao l.length cap] w fun e w' => ∃ v', e = .returned (.tuple #[v', .bool true]) ∧ w'.ownsRow w.heap.size 36 5 v' P.length (cellsOf P) ∧ Touch w w' (fun _ => False) := by
  obtain ⟨i0, hi, hz0, hz1, hz2⟩ := info_parts info36
  have HP := hide hP
  have HL := hide hl
  have HS := hide hs
  clear hP hl hs
  go_enter Try.func21, Try.ntmps21
  go_wp2_with fail
  go_loopw [4, 5, 6, 7] (fun v4 v5 v6 v7 wr => ∃ (j p : Nat) (S : PS), v5 = .int .i64 S.la ∧ v6 = .int .i64 S.ld ∧ v7 = .int .i64 (p : Int) ∧ p ≤ l.length ∧ j ≤ P.length ∧ Hid (l.drop p = bytesFrom cs S (P.drop j)) ∧ Hid (wr.ownsRow w.heap.size 36 5 v4 j (cellsOf (P.take j))) ∧ Hid (Touch w wr (fun _ => False)))
    (fun _ _ _ v7 _ => l.length - (intOf v7).toNat)
  case atStart => exact ⟨0, 0, PS.init, rfl, rfl, rfl, Nat.zero_le _, Nat.zero_le _, hide (by simpa using HL.out), hide (World.ownsRow_nil w _ 36 5), hide (Touch.refl _ _)⟩
  case round =>
    obtain ⟨j, p, S, rfl, rfl, rfl, hp, hj, hdrop, hown, ht⟩ := hrel
    by_cases hlt : p < l.length
    · have hjl : j < P.length := by
        rcases Nat.lt_or_ge j P.length with h | h
        · exact h
        · exfalso
          have h1 := hdrop.out
          rw [List.drop_eq_nil_of_le h, bytesFrom] at h1
          have := congrArg List.length h1
          rw [List.length_drop, List.length_nil] at this
          omega
      obtain ⟨g, rfl, hch, hcap⟩ : ∃ g, ao = some ⟨g, 0, none⟩ ∧ Ch w g cap l ∧ cap ≤ maxLen := by
        rcases HS.out with h | h
        · rw [h] at hlt; cases hlt
        · exact h
      have HCH := hide (hch.touch ht.out (fun h => h))
      have hglt : g < wr.heap.size := HCH.out.lt
      have hb := hdrop.out
      rw [List.drop_eq_getElem_cons hjl, bytesFrom] at hb
      have HE := hide (List.take_succ_eq_append_getElem hjl)
      have hn := HP.out _ (List.getElem_mem hjl)
      generalize P[j] = n at hb HE hn
      have HREST : Hid (∃ S', S' = PS.enc1 cs S n ∧ S'.la = n.a ∧ S'.ld = (if n.dec then n.e else S.ld)) := hide ⟨_, rfl, enc1_la cs S n, enc1_ld cs S n⟩
      generalize PS.enc1 cs S n = S' at hb HREST
      generalize hrest : bytesFrom cs S' (P.drop (j + 1)) = rest at hb
      have HRS := hide hrest
      clear hrest
      obtain ⟨⟨⟨hk, he⟩, hshape⟩, hwf⟩ := hn
      clear hch hdrop
      by_cases hf : S.fits cs n
      · obtain ⟨⟨f1, f2⟩, f3, _⟩ := hf
        have hb1 : l.drop p = n.hds.toUInt8 :: (w64 (n.a - S.la)).toUInt8 :: (w64 (n.e - n.s)).toUInt8 :: rest := by
          rw [hb, PS.nb, if_pos ⟨⟨f1, f2⟩, f3, by assumption⟩]; rfl
        have A1 := back_small S.la n.a hwf.2.1 f1
        have A2 := back_small n.s n.e hwf.2.2.2 f2
        have hh256 : n.hds < 256 := by unfold Nd.hds; split <;> omega
        obtain ⟨e0, p0, r0⟩ := one hb1 hh256 HCH.out
        obtain ⟨e1, p1, r1⟩ := one r0 f1 HCH.out
        obtain ⟨e2, p2, r2⟩ := one r1 f2 HCH.out
        have R2 := hide r2
        clear hb1 r0 r1 r2 hb
        generalize w64 (n.a - S.la) = x1 at A1 f1 e1
        generalize w64 (n.e - n.s) = x2 at A2 f2 e2
        obtain ⟨k, dec, na, ns, ne⟩ := n
        simp only at f3 hk he hshape hwf A1 A2 HE HREST
        subst f3
        obtain ⟨hwk, ⟨wa1, wa2⟩, ⟨ws1, ws2⟩, ⟨we1, we2⟩⟩ := hwf
        by_cases hs : na < ns
        · have hse : ns = na + 1 := by
            rcases hshape with h | h | h
            · cases h
            · omega
            · exact h.2
          subst hse
          have hd : Nd.hds ⟨k, false, na, na + 1, ne⟩ = k * 2 + 1 := by simp [Nd.hds]; omega
          rw [hd] at e0
          obtain ⟨q1, q2, q3⟩ := hds_bits k hk 1 (by omega)
          generalize hhh : k * 2 + 1 = h at e0 q1 q2 q3
          clear hhh hd hh256
          have wb1 : -9223372036854775808 ≤ na := wa1
          have wb2 : na + 1 ≤ 9223372036854775807 := ws2
          have A3 : wrap64 (na + 1) = na + 1 := by unfold wrap64; omega
          have hown1 := hown.out
          go_wp2_with (at_builtin; refine wpList_append_own _ rfl _ _ 32 rfl w.heap.size 36 i0 (.agg #[.int .u8 0, .bool false, .int .i64 0, .int .i64 0, .int .i64 0]) 5 32 Try.underlying32 hi hz0 hz1 hz2 rfl (by decide) _ _ _ rfl ((hown1.alloc _).alloc _) ⟨wr.heap.size + 1, 0, none⟩ 1 1 (Nd.cells ⟨k, false, na, na + 1, ne⟩) rfl rfl (news36 wr _ ⟨k, false, na, na + 1, ne⟩) (oneN _) (by unfold maxLen; omega) (by omega) (by have := ht.out.size; simp; omega) ?_)
          intro v' w1 hown' hgrow _
          have R := after_dec hown1 ht.out hown' hgrow
          rw [← HE.out] at R
          have HR := hide R
          clear R hown' hgrow hown1
          go_wp2
          go_roundw
          case rel =>
            obtain ⟨S2, q4, q5, q6⟩ := HREST.out
            subst q4
            simp only [Bool.false_eq_true, if_false] at q5 q6
            refine ⟨j + 1, p + 3, S2, by rw [q5], by rw [q6], by go_num, by omega, by omega, hide ?_, hide HR.out.1, hide HR.out.2⟩
            rw [HRS.out]; exact R2.out
          case measure => simp [intOf]; omega
        · have hse : na = ns := by
            rcases hshape with h | h | h
            · cases h
            · exact h.symm
            · omega
          subst hse
          have hd : Nd.hds ⟨k, false, na, na, ne⟩ = k * 2 + 0 := by simp [Nd.hds]
          rw [hd] at e0
          obtain ⟨q1, q2, q3⟩ := hds_bits k hk 0 (by omega)
          generalize hhh : k * 2 + 0 = h at e0 q1 q2 q3
          clear hhh hd hh256
          have hown1 := hown.out
          go_wp2_with (at_builtin; refine wpList_append_own _ rfl _ _ 32 rfl w.heap.size 36 i0 (.agg #[.int .u8 0, .bool false, .int .i64 0, .int .i64 0, .int .i64 0]) 5 32 Try.underlying32 hi hz0 hz1 hz2 rfl (by decide) _ _ _ rfl ((hown1.alloc _).alloc _) ⟨wr.heap.size + 1, 0, none⟩ 1 1 (Nd.cells ⟨k, false, na, na, ne⟩) rfl rfl (news36 wr _ ⟨k, false, na, na, ne⟩) (oneN _) (by unfold maxLen; omega) (by omega) (by have := ht.out.size; simp; omega) ?_)
          intro v' w1 hown' hgrow _
          have R := after_dec hown1 ht.out hown' hgrow
          rw [← HE.out] at R
          have HR := hide R
          clear R hown' hgrow hown1
          go_wp2
          go_roundw
          case rel =>
            obtain ⟨S2, q4, q5, q6⟩ := HREST.out
            subst q4
            simp only [Bool.false_eq_true, if_false] at q5 q6
            refine ⟨j + 1, p + 3, S2, by rw [q5], by rw [q6], by go_num, by omega, by omega, hide ?_, hide HR.out.1, hide HR.out.2⟩
            rw [HRS.out]; exact R2.out
          case measure => simp [intOf]; omega
      · have hb1 : l.drop p = n.hdr.toUInt8 :: (Lib.uvarint (w64 (n.a - S.la)) ++ ((if n.dec then Lib.uvarint (w64 (n.s - S.ld)) else []) ++ (Lib.uvarint (w64 (n.e - n.s)) ++ rest))) := by
          rw [hb, PS.nb, if_neg hf, longBytes]
          simp only [List.append_assoc, List.singleton_append]
          rfl
        have A1 := back S.la n.a hwf.2.1
        have A2 := back n.s n.e hwf.2.2.2
        have A4 := back S.ld n.s hwf.2.2.1
        have l1 := hide (w64_lt (n.a - S.la))
        have l2 := hide (w64_lt (n.e - n.s))
        have l3 := hide (w64_lt (n.s - S.ld))
        have hh256 : n.hdr < 256 := by unfold Nd.hdr; split <;> (try split) <;> omega
        obtain ⟨e0, p0, r0⟩ := one hb1 hh256 HCH.out
        clear hb1 hb hf
        generalize w64 (n.a - S.la) = x1 at A1 l1 r0
        generalize w64 (n.e - n.s) = x2 at A2 l2 r0
        generalize w64 (n.s - S.ld) = x3 at A4 l3 r0
        obtain ⟨k, dec, na, ns, ne⟩ := n
        simp only at hk he hshape hwf A1 A2 A4 HE HREST r0
        obtain ⟨hwk, ⟨wa1, wa2⟩, ⟨ws1, ws2⟩, ⟨we1, we2⟩⟩ := hwf
        have hu1 := fun (W : World) (hc : Ch W g cap l) => uvd_ok g cap l hle hcap (p + 1) x1 l1.out _ r0 W hc
        have r1 : l.drop (p + 1 + (Lib.uvarint x1).length) = (if dec then Lib.uvarint x3 else []) ++ (Lib.uvarint x2 ++ rest) := by
          rw [← List.drop_drop, r0, List.drop_left]
        simp only [Int.natCast_add, Int.natCast_one] at hu1
        cases dec with
        | true =>
          simp only [if_true] at r1
          have hd : Nd.hdr ⟨k, true, na, ns, ne⟩ = k * 2 + 48 := by simp [Nd.hdr]
          rw [hd] at e0
          obtain ⟨q1, q2, q3, q4⟩ := hdd_bits k hk
          generalize hhh : k * 2 + 48 = h at e0 q1 q2 q3 q4
          clear hhh hd hh256
          have hu2 := fun (W : World) (hc : Ch W g cap l) => uvd_ok g cap l hle hcap (p + 1 + (Lib.uvarint x1).length) x3 l3.out _ r1 W hc
          have r2 : l.drop (p + 1 + (Lib.uvarint x1).length + (Lib.uvarint x3).length) = Lib.uvarint x2 ++ rest := by
            rw [← List.drop_drop, r1, List.drop_left]
          have hu3 := fun (W : World) (hc : Ch W g cap l) => uvd_ok g cap l hle hcap (p + 1 + (Lib.uvarint x1).length + (Lib.uvarint x3).length) x2 l2.out _ r2 W hc
          have r3 : l.drop (p + 1 + (Lib.uvarint x1).length + (Lib.uvarint x3).length + (Lib.uvarint x2).length) = rest := by
            rw [← List.drop_drop, r2, List.drop_left]
          have hlen3 : p + 1 + (Lib.uvarint x1).length + (Lib.uvarint x3).length + (Lib.uvarint x2).length ≤ l.length := by
            have h1 := congrArg List.length r2
            have h2 := Lib.uvarint_pos x2
            rw [List.length_drop, List.length_append] at h1
            omega
          simp only [Int.natCast_add, Int.natCast_one] at hu2 hu3
          have HU1 := hide hu1
          have HU2 := hide hu2
          have HU3 := hide hu3
          have R3 := hide r3
          clear hu1 hu2 hu3 r0 r1 r2 r3
          generalize (Lib.uvarint x1).length = n1 at *
          generalize (Lib.uvarint x2).length = n2 at *
          generalize (Lib.uvarint x3).length = n3 at *
          go_wp2_with fail
          refine (HU1.out _ (HCH.out.alloc _)).mono ?_
          rintro e w2 ⟨rfl, rfl⟩
          go_wp2_with fail
          refine (HU2.out _ (HCH.out.alloc _)).mono ?_
          rintro e w2 ⟨rfl, rfl⟩
          go_wp2_with fail
          refine (HU3.out _ (HCH.out.alloc _)).mono ?_
          rintro e w2 ⟨rfl, rfl⟩
          have hown1 := hown.out
          go_wp2_with (at_builtin; refine wpList_append_own _ rfl _ _ 32 rfl w.heap.size 36 i0 (.agg #[.int .u8 0, .bool false, .int .i64 0, .int .i64 0, .int .i64 0]) 5 32 Try.underlying32 hi hz0 hz1 hz2 rfl (by decide) _ _ _ rfl ((hown1.alloc _).alloc _) ⟨wr.heap.size + 1, 0, none⟩ 1 1 (Nd.cells ⟨k, true, na, ns, ne⟩) rfl rfl (news36 wr _ ⟨k, true, na, ns, ne⟩) (oneN _) (by unfold maxLen; omega) (by omega) (by have := ht.out.size; simp; omega) ?_)
          intro v' w1 hown' hgrow _
          have R := after_dec hown1 ht.out hown' hgrow
          rw [← HE.out] at R
          have HR := hide R
          clear R hown' hgrow hown1
          go_wp2
          go_roundw
          case rel =>
            obtain ⟨S2, q4', q5, q6⟩ := HREST.out
            subst q4'
            simp only [if_true] at q5 q6
            refine ⟨j + 1, p + 1 + n1 + n3 + n2, S2, by rw [q5], by rw [q6], by go_num, by omega, by omega, hide ?_, hide HR.out.1, hide HR.out.2⟩
            rw [HRS.out]; exact R3.out
          case measure => simp [intOf]; omega
        | false =>
          simp only [Bool.false_eq_true, if_false, List.nil_append] at r1
          have hu2 := fun (W : World) (hc : Ch W g cap l) => uvd_ok g cap l hle hcap (p + 1 + (Lib.uvarint x1).length) x2 l2.out _ r1 W hc
          have r3 : l.drop (p + 1 + (Lib.uvarint x1).length + (Lib.uvarint x2).length) = rest := by
            rw [← List.drop_drop, r1, List.drop_left]
          have hlen3 : p + 1 + (Lib.uvarint x1).length + (Lib.uvarint x2).length ≤ l.length := by
            have h1 := congrArg List.length r1
            have h2 := Lib.uvarint_pos x2
            rw [List.length_drop, List.length_append] at h1
            omega
          simp only [Int.natCast_add, Int.natCast_one] at hu2
          have HU1 := hide hu1
          have HU2 := hide hu2
          have R3 := hide r3
          clear hu1 hu2 r0 r1 r3 A4 l3
          generalize (Lib.uvarint x1).length = n1 at *
          generalize (Lib.uvarint x2).length = n2 at *
          by_cases hs : na < ns
          · have hse : ns = na + 1 := by
              rcases hshape with h | h | h
              · cases h
              · omega
              · exact h.2
            subst hse
            have hd : Nd.hdr ⟨k, false, na, na + 1, ne⟩ = k * 2 + 16 + 1 := by simp [Nd.hdr]; omega
            rw [hd] at e0
            obtain ⟨q1, q2, q3, q4, q5⟩ := hdr_bits k hk 1 (by omega)
            generalize hhh : k * 2 + 16 + 1 = h at e0 q1 q2 q3 q4 q5
            clear hhh hd hh256
            have wb1 : -9223372036854775808 ≤ na := wa1
            have wb2 : na + 1 ≤ 9223372036854775807 := ws2
            have A3 : wrap64 (na + 1) = na + 1 := by unfold wrap64; omega
            go_wp2_with fail
            refine (HU1.out _ (HCH.out.alloc _)).mono ?_
            rintro e w2 ⟨rfl, rfl⟩
            go_wp2_with fail
            refine (HU2.out _ (HCH.out.alloc _)).mono ?_
            rintro e w2 ⟨rfl, rfl⟩
            have hown1 := hown.out
            go_wp2_with (at_builtin; refine wpList_append_own _ rfl _ _ 32 rfl w.heap.size 36 i0 (.agg #[.int .u8 0, .bool false, .int .i64 0, .int .i64 0, .int .i64 0]) 5 32 Try.underlying32 hi hz0 hz1 hz2 rfl (by decide) _ _ _ rfl ((hown1.alloc _).alloc _) ⟨wr.heap.size + 1, 0, none⟩ 1 1 (Nd.cells ⟨k, false, na, na + 1, ne⟩) rfl rfl (news36 wr _ ⟨k, false, na, na + 1, ne⟩) (oneN _) (by unfold maxLen; omega) (by omega) (by have := ht.out.size; simp; omega) ?_)
            intro v' w1 hown' hgrow _
            have R := after_dec hown1 ht.out hown' hgrow
            rw [← HE.out] at R
            have HR := hide R
            clear R hown' hgrow hown1
            go_wp2
            go_roundw
            case rel =>
              obtain ⟨S2, q4', q5', q6'⟩ := HREST.out
              subst q4'
              simp only [Bool.false_eq_true, if_false] at q5' q6'
              refine ⟨j + 1, p + 1 + n1 + n2, S2, by rw [q5'], by rw [q6'], by go_num, by omega, by omega, hide ?_, hide HR.out.1, hide HR.out.2⟩
              rw [HRS.out]; exact R3.out
            case measure => simp [intOf]; omega
          · have hse : na = ns := by
              rcases hshape with h | h | h
              · cases h
              · exact h.symm
              · omega
            subst hse
            have hd : Nd.hdr ⟨k, false, na, na, ne⟩ = k * 2 + 16 + 0 := by simp [Nd.hdr]
            rw [hd] at e0
            obtain ⟨q1, q2, q3, q4, q5⟩ := hdr_bits k hk 0 (by omega)
            generalize hhh : k * 2 + 16 + 0 = h at e0 q1 q2 q3 q4 q5
            clear hhh hd hh256
            go_wp2_with fail
            refine (HU1.out _ (HCH.out.alloc _)).mono ?_
            rintro e w2 ⟨rfl, rfl⟩
            go_wp2_with fail
            refine (HU2.out _ (HCH.out.alloc _)).mono ?_
            rintro e w2 ⟨rfl, rfl⟩
            have hown1 := hown.out
            go_wp2_with (at_builtin; refine wpList_append_own _ rfl _ _ 32 rfl w.heap.size 36 i0 (.agg #[.int .u8 0, .bool false, .int .i64 0, .int .i64 0, .int .i64 0]) 5 32 Try.underlying32 hi hz0 hz1 hz2 rfl (by decide) _ _ _ rfl ((hown1.alloc _).alloc _) ⟨wr.heap.size + 1, 0, none⟩ 1 1 (Nd.cells ⟨k, false, na, na, ne⟩) rfl rfl (news36 wr _ ⟨k, false, na, na, ne⟩) (oneN _) (by unfold maxLen; omega) (by omega) (by have := ht.out.size; simp; omega) ?_)
            intro v' w1 hown' hgrow _
            have R := after_dec hown1 ht.out hown' hgrow
            rw [← HE.out] at R
            have HR := hide R
            clear R hown' hgrow hown1
            go_wp2
            go_roundw
            case rel =>
              obtain ⟨S2, q4', q5', q6'⟩ := HREST.out
              subst q4'
              simp only [Bool.false_eq_true, if_false] at q5' q6'
              refine ⟨j + 1, p + 1 + n1 + n2, S2, by rw [q5'], by rw [q6'], by go_num, by omega, by omega, hide ?_, hide HR.out.1, hide HR.out.2⟩
              rw [HRS.out]; exact R3.out
            case measure => simp [intOf]; omega
    · have hjE : Hid (j = P.length) := hide (by
        rcases Nat.lt_or_ge j P.length with h | h
        · exfalso
          have h1 := hdrop.out
          rw [List.drop_eq_nil_of_le (by omega), List.drop_eq_getElem_cons h, bytesFrom] at h1
          have := congrArg List.length h1
          rw [List.length_append, List.length_nil] at this
          have h2 : (S.nb cs P[j]) = [] := List.eq_nil_of_length_eq_zero (by omega)
          exact nb_ne _ _ _ h2
        · omega)
      go_wp2
      go_ret2
      refine ⟨_, rfl, ?_, ht.out⟩
      have := hown.out
      rw [hjE.out, List.take_length] at this
      exact this
end Go.Proofs.Qxb6615701a
