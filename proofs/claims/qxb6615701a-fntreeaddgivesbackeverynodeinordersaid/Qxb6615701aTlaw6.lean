/-
  The law of the batch's room (6): its walk.
-/
import Derived.Test.Qxb6615701aTpair
namespace Go.Proofs.Qxb6615701a
open Go Go.RowKit
set_option linter.unusedVariables false

theorem ret_true {p : Prop} [Decidable p] (h : p) : Ending.returned (.bool (decide p)) = .returned (.bool true) := by rw [decide_eq_true h]

theorem Nodes.at {w w' : World} {a : Option Addr} {len : Nat} {L : List Nd} (h : Nodes w a len L) (ht : Touch w w' (fun _ => False)) (j : Nat) (hj : j < len) : ∃ b o, a = some ⟨b, o, none⟩ ∧ b < w'.heap.size ∧ ∃ hl : j < L.length, NodeAt w' b (o + j * 5) L[j] := by
  obtain ⟨h1, h2, h3⟩ := h
  rcases h3 with h3 | ⟨b, o, rfl, h4⟩
  · omega
  · have := (h4 j (by omega)).touch ht (fun h => h)
    exact ⟨b, o, rfl, this.lt, by omega, this⟩

set_option maxHeartbeats 4000000 in
set_option maxRecDepth 100000 in
theorem law6_main (a : Option Addr) (len cap ra rb cs : Nat) (L : List Nd) (w : World) (hN : Nodes w a len L) (hml : len ≤ 32768) (ra1 : 1 ≤ ra) (ra2 : ra ≤ 65536) (rb1 : 1 ≤ rb) (rb2 : rb ≤ 65536) (c1 : 31 ≤ cs) (c2 : cs ≤ 65536) :
    Calls Try.prog 6 #[.slice a len cap, .int .i64 (ra : Int), .int .i64 (rb : Int), .int .i64 (cs : Int)] w fun e w' => e = .returned (.bool true) ∧ Below w.heap.size w w' := by
  have HN := hide hN
  have HL : Hid (L.length = len) := hide hN.1
  clear hN
  go_enter Try.func6, Try.ntmps6
  go_wp2_with fail
  refine (bytes23 a len cap (ra : Int) (rb : Int) (cs : Int) (by unfold maxLen; omega) w).mono ?_
  rintro e w1 ⟨⟨bl, rfl⟩, rfl⟩
  cases bl
  · go_wp2
    go_ret
    exact ⟨rfl, Below.refl _ _⟩
  go_wp2_with fail
  go_loopw [9] (fun vi wr => ∃ j : Nat, vi = .int .i64 (j : Int) ∧ j ≤ len ∧ Hid (Touch w wr (fun _ => False)) ∧ Hid (∀ n ∈ L.take j, n.addable)) (fun vi _ => len - (intOf vi).toNat)
  case atStart => exact ⟨0, rfl, Nat.zero_le _, hide (Touch.refl _ _), hide (fun n h => by simp at h)⟩
  case round =>
    obtain ⟨j, rfl, hj, ht, hok⟩ := hrel
    by_cases hlt : j < len
    · obtain ⟨b, o, rfl, hb, hl, hnode⟩ := HN.out.at ht.out j hlt
      have hwf := HN.out.2.1 _ (List.getElem_mem hl)
      have HE := hide (List.take_succ_eq_append_getElem hl)
      generalize L[j] = n at hnode hwf HE
      have hcall := hide (addable_ok n hwf.1 hwf.2.1 wr)
      obtain ⟨d0, d1, d2, d3, d4⟩ := hnode
      clear hwf
      go_wp2_with fail
      refine hcall.out.mono ?_
      rintro e w2 ⟨bl, rfl, hbl, ht2⟩
      cases bl
      · have T2 := hide (ht.out.trans ht2 (fun _ _ h => h))
        clear ht2 hbl
        go_wp2
        go_ret
        exact ⟨rfl, T2.out.below⟩
      · have T2 := hide (ht.out.trans ht2 (fun _ _ h => h))
        have OK2 : Hid (∀ n ∈ L.take (j + 1), n.addable) := hide (by
          intro m hm
          rw [HE.out, List.mem_append, List.mem_singleton] at hm
          rcases hm with hm | rfl
          · exact hok.out m hm
          · exact hbl rfl)
        clear ht2 hbl
        go_wp2
        go_roundw
        case rel => exact ⟨j + 1, by go_num, by omega, T2, OK2⟩
        case measure => simp [intOf]; omega
    · have hjl : j = len := by omega
      have OKA : Hid (∀ n ∈ L, n.addable) := hide (by
        have := hok.out
        rw [hjl, ← HL.out, List.take_length] at this
        exact this)
      clear hok
      go_wp2_with fail
      refine (tree_new cs ra c2 ra2 wr).mono ?_
      rintro e w2 ⟨gtA, gbA, rfl, fa1, fa2, tA, t2⟩
      have TA := hide tA
      have T2 := hide t2
      clear tA t2
      go_wp2_with fail
      refine (tree_new cs rb c2 rb2 w2).mono ?_
      rintro e w3 ⟨gtB, gbB, rfl, fb1, fb2, tB, t3⟩
      have START : Hid (Two wr w3 gtA gbA [] gtB gbB [] ∧ Tree w3 gtA gbA cs ra (L.take 0) [] ∧ Tree w3 gtB gbB cs rb (L.take 0) []) := hide (by
        have la := TA.out.lt
        have lb := tB.lt
        have tA3 := TA.out.touch t3 (fun h => h) (fun h => h) (fun _ _ h => h)
        have la3 := tA3.lt
        have s2 := T2.out.size
        have s3 := t3.size
        refine ⟨⟨T2.out.trans t3 (fun _ _ h => h), ?_, ?_, ?_⟩, by rw [List.take_zero]; exact tA3, by rw [List.take_zero]; exact tB⟩
        · rintro k (rfl | rfl | h)
          · exact ⟨fa1, la3.1⟩
          · exact ⟨fa2, la3.2.1⟩
          · cases h
        · rintro k (rfl | rfl | h)
          · exact ⟨by omega, lb.1⟩
          · exact ⟨by omega, lb.2.1⟩
          · cases h
        · rintro k (rfl | rfl | h) (h' | h' | h')
          · omega
          · omega
          · cases h'
          · omega
          · omega
          · cases h'
          · cases h
          · cases h
          · cases h)
      clear t3 tB TA T2
      go_wp2_with fail
      go_loopw [12] (fun vi wq => ∃ (i : Nat) (fpA fpB : List Nat), vi = .int .i64 (i : Int) ∧ i ≤ len ∧ Hid (Two wr wq gtA gbA fpA gtB gbB fpB ∧ Tree wq gtA gbA cs ra (L.take i) fpA ∧ Tree wq gtB gbB cs rb (L.take i) fpB)) (fun vi _ => len - (intOf vi).toNat)
      case atStart => exact ⟨0, [], [], rfl, Nat.zero_le _, START⟩
      case round =>
        clear START
        obtain ⟨i, fpA, fpB, rfl, hi, hst⟩ := hrel
        by_cases hil : i < len
        · obtain ⟨b, o, rfl, hb, hl, hnode⟩ := HN.out.at (ht.out.trans hst.out.1.touch (fun _ _ h => h)) i hil
          have hadd := OKA.out _ (List.getElem_mem hl)
          have HE := hide (List.take_succ_eq_append_getElem hl)
          have htl : Hid ((L.take i).length ≤ 32768) := hide (by rw [List.length_take, HL.out]; omega)
          generalize L[i] = n at hnode hadd HE
          obtain ⟨d0, d1, d2, d3, d4⟩ := hnode
          have HADD := hide hadd.1
          clear hadd
          go_wp2_with fail
          have PRE : Hid (Two _ (wr.alloc (.cells #[.int .u8 (n.k : Int), .bool n.dec, .int .i64 n.a, .int .i64 n.s, .int .i64 n.e] 36)) gtA gbA fpA gtB gbB fpB ∧ Tree (wr.alloc (.cells #[.int .u8 (n.k : Int), .bool n.dec, .int .i64 n.a, .int .i64 n.s, .int .i64 n.e] 36)) gtA gbA cs ra (L.take i) fpA ∧ Tree (wr.alloc (.cells #[.int .u8 (n.k : Int), .bool n.dec, .int .i64 n.a, .int .i64 n.s, .int .i64 n.e] 36)) gtB gbB cs rb (L.take i) fpB ∧ NodeAt (wr.alloc (.cells #[.int .u8 (n.k : Int), .bool n.dec, .int .i64 n.a, .int .i64 n.s, .int .i64 n.e] 36)) wr.heap.size 0 n ∧ (∀ k, (k = gtA ∨ k = gbA ∨ k ∈ fpA) → k < wr.heap.size)) := hide (by
            have t0 : Touch wr (wr.alloc (.cells #[.int .u8 (n.k : Int), .bool n.dec, .int .i64 n.a, .int .i64 n.s, .int .i64 n.e] 36)) (fun _ => False) := (Touch.refl _ _).alloc _
            exact ⟨hst.out.1.more t0, hst.out.2.1.touch t0 (fun h => h) (fun h => h) (fun _ _ h => h), hst.out.2.2.touch t0 (fun h => h) (fun h => h) (fun _ _ h => h), nodeAt_blk (heap_alloc_new wr _), fun k hk => (hst.out.1.farA k hk).2⟩)
          clear hst d0 d1 d2 d3 d4
          generalize wr.alloc (.cells #[.int .u8 (n.k : Int), .bool n.dec, .int .i64 n.a, .int .i64 n.s, .int .i64 n.e] 36) = wx at PRE ⊢
          refine (tree_add gtA gbA cs ra c1 c2 ra1 ra2 n HADD.out wx (L.take i) htl.out fpA PRE.out.2.1).mono ?_
          rintro e w4 ⟨rfl, fpA', tA4, sA4⟩
          have P4 := hide (And.intro (PRE.out.1.step sA4 tA4.lt.2.2) (And.intro tA4 (PRE.out.1.otherTree sA4 PRE.out.2.2.1)))
          have N4 := PRE.out.2.2.2.1.touch sA4.touch (fun hk => Nat.lt_irrefl _ (PRE.out.2.2.2.2 _ hk))
          obtain ⟨d0, d1, d2, d3, d4⟩ := N4
          clear tA4 sA4
          go_wp2_with fail
          refine (tree_add gtB gbB cs rb c1 c2 rb1 rb2 n HADD.out w4 (L.take i) htl.out fpB P4.out.2.2).mono ?_
          rintro e w5 ⟨rfl, fpB', tB5, sB5⟩
          have P5 := hide (And.intro (P4.out.1.swap.step sB5 tB5.lt.2.2).swap (And.intro (P4.out.1.swap.otherTree sB5 P4.out.2.1) tB5))
          rw [← HE.out] at P5
          clear tB5 sB5 d0 d1 d2 d3 d4
          go_wp2
          go_roundw
          case rel => exact ⟨i + 1, fpA', fpB', by go_num, by omega, P5⟩
          case measure => simp [intOf]; omega
        · have hil' : i = len := by omega
          have FUL : Hid (L.take i = L) := hide (by rw [hil', ← HL.out, List.take_length])
          have hLl : Hid (L.length ≤ 32768) := hide (by rw [HL.out]; exact hml)
          rw [FUL.out] at hst
          go_wp2_with fail
          refine (tree_enc gtA gbA cs ra c1 c2 ra2 wr L hLl.out fpA hst.out.2.1).mono ?_
          rintro e w4 ⟨rfl, fpA', tA4, sA4⟩
          have P4 := hide (And.intro (hst.out.1.step sA4 tA4.mem.lt.2) (And.intro tA4 (hst.out.1.otherTree sA4 hst.out.2.2)))
          clear tA4 sA4
          go_wp2_with fail
          refine (tree_enc gtB gbB cs rb c1 c2 rb2 w4 L hLl.out fpB P4.out.2.2).mono ?_
          rintro e w5 ⟨rfl, fpB', tB5, sB5⟩
          have P5 := hide (And.intro (P4.out.1.swap.step sB5 tB5.mem.lt.2).swap (And.intro (P4.out.1.swap.otherDone sB5 P4.out.2.1) tB5))
          clear tB5 sB5 P4 hst
          go_wp2_with fail
          refine (counts_ok gtA gbA cs ra 0 _ _ w5 fpA' P5.out.2.1.mem).mono ?_
          rintro e w6 ⟨rfl, nq1, rfl⟩
          go_wp2_with fail
          have P6 : Hid (Two _ (w5.drewN nq1) gtA gbA fpA' gtB gbB fpB' ∧ Done (w5.drewN nq1) gtA gbA cs ra L fpA' ∧ Done (w5.drewN nq1) gtB gbB cs rb L fpB') := hide (by
            have t0 : Touch w5 (w5.drewN nq1) (fun _ => False) := (Touch.refl _ _).drew _
            exact ⟨P5.out.1.more t0, P5.out.2.1.touch t0 (fun h => h) (fun h => h) (fun _ _ h => h), P5.out.2.2.touch t0 (fun h => h) (fun h => h) (fun _ _ h => h)⟩)
          clear P5
          generalize w5.drewN nq1 = w7 at P6 ⊢
          refine (counts_ok gtB gbB cs rb 0 _ _ w7 fpB' P6.out.2.2.mem).mono ?_
          rintro e w8 ⟨rfl, nq2, rfl⟩
          have P8 : Hid (Two _ (w7.drewN nq2) gtA gbA fpA' gtB gbB fpB' ∧ Done (w7.drewN nq2) gtA gbA cs ra L fpA' ∧ Done (w7.drewN nq2) gtB gbB cs rb L fpB') := hide (by
            have t0 : Touch w7 (w7.drewN nq2) (fun _ => False) := (Touch.refl _ _).drew _
            exact ⟨P6.out.1.more t0, P6.out.2.1.touch t0 (fun h => h) (fun h => h) (fun _ _ h => h), P6.out.2.2.touch t0 (fun h => h) (fun h => h) (fun _ _ h => h)⟩)
          clear P6
          generalize w7.drewN nq2 = w9 at P8 ⊢
          have SZ := enc_len cs L
          have AL := all_len (L.foldl (PS.enc1 cs) PS.init)
          have FIN := foldl_fin cs L PS.init
          have h0i : PS.init.fin.length = 0 := rfl
          rw [HL.out] at SZ FIN
          rw [AL, HL.out]
          have MM : Hid (Two _ w9 gtA gbA fpA' gtB gbB fpB' ∧ (∃ x y, Mem w9 gtA cs x y (L.foldl (PS.enc1 cs) PS.init) fpA') ∧ (∃ x y, Mem w9 gtB cs x y (L.foldl (PS.enc1 cs) PS.init) fpB')) := hide ⟨P8.out.1, ⟨_, _, P8.out.2.1.mem⟩, ⟨_, _, P8.out.2.2.mem⟩⟩
          clear P8 AL
          generalize L.foldl (PS.enc1 cs) PS.init = S at MM SZ FIN ⊢
          have hfle : S.fin.length ≤ 32768 := by omega
          have hUle : S.all.length ≤ 32769 := by
            unfold PS.all
            split
            · rw [List.length_append, List.length_singleton]; omega
            · simp
          have HFIN : Hid (∀ i, i < S.all.length → S.st = true ∧ S.fin.length + 1 = S.all.length) := hide (by
            intro i hi
            unfold PS.all at hi ⊢
            split at hi
            · rename_i h; simp [h]
            · simp at hi)
          have HALL : Hid (∀ i (hi : i < S.all.length), (∀ h : i < S.fin.length, S.all[i] = S.fin[i]) ∧ (i = S.fin.length → S.all[i] = S.cur) ∧ lens (S.all.take (i + 1)) = lens (S.all.take i) + (S.all[i]).length) := hide (by
            intro i hi
            refine ⟨fun h => ?_, fun h => ?_, ?_⟩
            · have hst := (HFIN.out i hi).1
              simp only [PS.all, hst, if_true]
              rw [List.getElem_append_left h]
            · have hst := (HFIN.out i hi).1
              subst h
              simp only [PS.all, hst, if_true]
              rw [List.getElem_append_right (Nat.le_refl _)]
              simp
            · rw [List.take_succ_eq_append_getElem hi, lens_append, lens_one])
          have HTK : Hid (∀ i, lens (S.all.take i) ≤ 31 * len) := hide (fun i => Nat.le_trans (lens_take _ _) SZ.2)
          have SZ1 : Hid (3 * len ≤ lens (S.all.take S.all.length)) := hide (by rw [List.take_length]; exact SZ.1)
          clear SZ FIN h0i
          go_wp2_with fail
          go_loopw [20, 21] (fun vt vi wq => ∃ (i : Nat), vt = .int .i64 ((lens (S.all.take i) : Nat) : Int) ∧ vi = .int .i64 (i : Int) ∧ i ≤ S.all.length ∧ Hid (Two _ wq gtA gbA fpA' gtB gbB fpB' ∧ (∃ x y, Mem wq gtA cs x y S fpA') ∧ (∃ x y, Mem wq gtB cs x y S fpB'))) (fun _ vi _ => S.all.length - (intOf vi).toNat)
          case atStart => exact ⟨0, rfl, rfl, Nat.zero_le _, MM⟩
          case round =>
            clear MM
            obtain ⟨i, rfl, rfl, hi, hM⟩ := hrel
            by_cases hiU : i < S.all.length
            · obtain ⟨hst, hUf⟩ := HFIN.out i hiU
              obtain ⟨a1, a2, a3⟩ := HALL.out i hiU
              obtain ⟨x1, y1, m2⟩ := hM.out.2.1
              obtain ⟨x2, y2, m3⟩ := hM.out.2.2
              have M2 := hide m2
              have M3 := hide m3
              clear m2 m3
              by_cases hmid : i + 1 < S.all.length
              · have hif : i < S.fin.length := by omega
                have hlen : lens (S.all.take (i + 1)) = lens (S.all.take i) + (S.fin[i]).length := by rw [a3, a1 hif]
                have k1 := hide (chunk_ok gtA cs x1 y1 S (by omega) i hif wr fpA' M2.out)
                have k2 := hide (chunk_ok gtB cs x2 y2 S (by omega) i hif wr fpB' M3.out)
                clear a1 a2 a3
                generalize S.fin[i] = cu at hlen k1 k2
                go_wp2_with fail
                refine k1.out.mono ?_
                rintro e wz ⟨ga, rfl, ca, rfl⟩
                have CA := hide ca
                clear ca
                go_wp2_with fail
                refine k2.out.mono ?_
                rintro e wz ⟨gb2, rfl, cb, rfl⟩
                have CB := hide cb
                clear cb
                go_wp2_with fail
                refine (equal_ok ga gb2 cs c2 _ _ rfl wr CA.out CB.out).mono ?_
                rintro e wz ⟨rfl, tz⟩
                have MZ : Hid (Two _ wz gtA gbA fpA' gtB gbB fpB' ∧ (∃ x y, Mem wz gtA cs x y S fpA') ∧ (∃ x y, Mem wz gtB cs x y S fpB')) := hide (by
                  obtain ⟨m1, ⟨x1, y1, m2⟩, ⟨x2, y2, m3⟩⟩ := hM.out
                  exact ⟨m1.more tz, ⟨x1, y1, m2.touch tz (fun h => h) (fun _ _ h => h)⟩, ⟨x2, y2, m3.touch tz (fun h => h) (fun _ _ h => h)⟩⟩)
                have hb1 := HTK.out (i + 1)
                rw [hlen] at hb1
                have HL1 := hide hlen
                clear tz hlen
                generalize lens (S.all.take i) = t at hb1 HL1 ⊢
                generalize hcl : cu.length = cl at hb1 HL1 ⊢
                have hng : ¬ (31 * (len : Int) < (t : Int) + (cl : Int)) := by omega
                go_wp2
                go_roundw
                case rel => exact ⟨i + 1, by rw [HL1.out]; go_num, by go_num, by omega, MZ⟩
                case measure => simp [intOf]; omega
              · have hif : i = S.fin.length := by omega
                have hlen : lens (S.all.take (i + 1)) = lens (S.all.take i) + S.cur.length := by rw [a3, a2 hif]
                have k1 := hide (writing_ok gtA cs x1 y1 S hst wr fpA' M2.out)
                have k2 := hide (writing_ok gtB cs x2 y2 S hst wr fpB' M3.out)
                clear a1 a2 a3 hif hUf
                generalize S.cur = cu at hlen k1 k2
                go_wp2_with fail
                refine k1.out.mono ?_
                rintro e wz ⟨ga, rfl, ca, rfl⟩
                have CA := hide ca
                clear ca
                go_wp2_with fail
                refine k2.out.mono ?_
                rintro e wz ⟨gb2, rfl, cb, rfl⟩
                have CB := hide cb
                clear cb
                go_wp2_with fail
                refine (equal_ok ga gb2 cs c2 _ _ rfl wr CA.out CB.out).mono ?_
                rintro e wz ⟨rfl, tz⟩
                have MZ : Hid (Two _ wz gtA gbA fpA' gtB gbB fpB' ∧ (∃ x y, Mem wz gtA cs x y S fpA') ∧ (∃ x y, Mem wz gtB cs x y S fpB')) := hide (by
                  obtain ⟨m1, ⟨x1, y1, m2⟩, ⟨x2, y2, m3⟩⟩ := hM.out
                  exact ⟨m1.more tz, ⟨x1, y1, m2.touch tz (fun h => h) (fun _ _ h => h)⟩, ⟨x2, y2, m3.touch tz (fun h => h) (fun _ _ h => h)⟩⟩)
                have hb1 := HTK.out (i + 1)
                rw [hlen] at hb1
                have HL1 := hide hlen
                clear tz hlen
                generalize lens (S.all.take i) = t at hb1 HL1 ⊢
                generalize hcl : cu.length = cl at hb1 HL1 ⊢
                have hng : ¬ (31 * (len : Int) < (t : Int) + (cl : Int)) := by omega
                go_wp2
                go_roundw
                case rel => exact ⟨i + 1, by rw [HL1.out]; go_num, by go_num, by omega, MZ⟩
                case measure => simp [intOf]; omega
            · have hiE : i = S.all.length := by omega
              have hT := SZ1.out
              rw [← hiE] at hT
              have hT2 := HTK.out i
              generalize lens (S.all.take i) = t at hT hT2 ⊢
              go_wp2
              go_ret
              exact ⟨ret_true (by omega), (ht.out.trans hM.out.1.touch (fun _ _ h => h)).below⟩
end Go.Proofs.Qxb6615701a
