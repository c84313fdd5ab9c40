/-
  The law of the nodes that come back (5): its walk.
-/
import Derived.Test.Qxb6615701aTone
namespace Go.Proofs.Qxb6615701a
open Go Go.RowKit
set_option linter.unusedVariables false

set_option maxHeartbeats 4000000 in
set_option maxRecDepth 100000 in
theorem law5_main (a : Option Addr) (len cap ra cs : Nat) (L : List Nd) (w : World) (hN : Nodes w a len L) (hml : len ≤ 32768) (ra1 : 1 ≤ ra) (ra2 : ra ≤ 65536) (c1 : 31 ≤ cs) (c2 : cs ≤ 65536) :
    Calls Try.prog 5 #[.slice a len cap, .int .i64 (ra : Int), .int .i64 (cs : Int)] w fun e w' => e = .returned (.bool true) ∧ Below w.heap.size w w' := by
  have HN := hide hN
  have HL : Hid (L.length = len) := hide hN.1
  clear hN
  go_enter Try.func5, Try.ntmps5
  go_wp2_with fail
  refine (bytes14 a len cap (ra : Int) (cs : Int) (by unfold maxLen; omega) w).mono ?_
  rintro e w1 ⟨⟨bl, rfl⟩, rfl⟩
  cases bl
  · go_wp2
    go_ret
    exact ⟨rfl, Below.refl _ _⟩
  go_wp2_with fail
  go_loopw [7] (fun vi wr => ∃ j : Nat, vi = .int .i64 (j : Int) ∧ j ≤ len ∧ Hid (Touch w wr (fun _ => False)) ∧ Hid (∀ n ∈ L.take j, n.addable)) (fun vi _ => len - (intOf vi).toNat)
  case atStart => exact ⟨0, rfl, Nat.zero_le _, hide (Touch.refl _ _), hide (fun n h => by simp at h)⟩
  case round =>
    obtain ⟨j, rfl, hj, ht, hok⟩ := hrel
    by_cases hlt : j < len
    · obtain ⟨b, o, rfl, hb, hl, hnode⟩ := HN.out.at ht.out j hlt
      have hwf := HN.out.2.1 _ (List.getElem_mem hl)
      have HE := hide (List.take_succ_eq_append_getElem hl)
      generalize L[j] = n at hnode hwf HE
      have hcall := hide (addable_ok n hwf.1 hwf.2.1 wr)
      obtain ⟨d0, d1, d2, d3, d4⟩ := hnode
      clear hwf
      go_wp2_with fail
      refine hcall.out.mono ?_
      rintro e w2 ⟨bl, rfl, hbl, ht2⟩
      cases bl
      · have T2 := hide (ht.out.trans ht2 (fun _ _ h => h))
        clear ht2 hbl
        go_wp2
        go_ret
        exact ⟨rfl, T2.out.below⟩
      · have T2 := hide (ht.out.trans ht2 (fun _ _ h => h))
        have OK2 : Hid (∀ n ∈ L.take (j + 1), n.addable) := hide (by
          intro m hm
          rw [HE.out, List.mem_append, List.mem_singleton] at hm
          rcases hm with hm | rfl
          · exact hok.out m hm
          · exact hbl rfl)
        clear ht2 hbl
        go_wp2
        go_roundw
        case rel => exact ⟨j + 1, by go_num, by omega, T2, OK2⟩
        case measure => simp [intOf]; omega
    · have hjl : j = len := by omega
      have OKA : Hid (∀ n ∈ L, n.addable) := hide (by
        have := hok.out
        rw [hjl, ← HL.out, List.take_length] at this
        exact this)
      clear hok
      go_wp2_with fail
      refine (tree_new cs ra c2 ra2 wr).mono ?_
      rintro e w2 ⟨gtA, gbA, rfl, fa1, fa2, tA, t2⟩
      have START : Hid (One wr w2 gtA gbA [] ∧ Tree w2 gtA gbA cs ra (L.take 0) []) := hide (by
        have la := tA.lt
        refine ⟨⟨t2, ?_⟩, by rw [List.take_zero]; exact tA⟩
        rintro k (rfl | rfl | h)
        · exact ⟨fa1, la.1⟩
        · exact ⟨fa2, la.2.1⟩
        · cases h)
      clear t2 tA
      go_wp2_with fail
      go_loopw [9] (fun vi wq => ∃ (i : Nat) (fpA : List Nat), vi = .int .i64 (i : Int) ∧ i ≤ len ∧ Hid (One wr wq gtA gbA fpA ∧ Tree wq gtA gbA cs ra (L.take i) fpA)) (fun vi _ => len - (intOf vi).toNat)
      case atStart => exact ⟨0, [], rfl, Nat.zero_le _, START⟩
      case round =>
        clear START
        obtain ⟨i, fpA, rfl, hi, hst⟩ := hrel
        by_cases hil : i < len
        · obtain ⟨b, o, rfl, hb, hl, hnode⟩ := HN.out.at (ht.out.trans hst.out.1.touch (fun _ _ h => h)) i hil
          have hadd := OKA.out _ (List.getElem_mem hl)
          have HE := hide (List.take_succ_eq_append_getElem hl)
          have htl : Hid ((L.take i).length ≤ 32768) := hide (by rw [List.length_take, HL.out]; omega)
          generalize L[i] = n at hnode hadd HE
          obtain ⟨d0, d1, d2, d3, d4⟩ := hnode
          have HADD := hide hadd.1
          clear hadd
          go_wp2_with fail
          have PRE : Hid (One _ (wr.alloc (.cells #[.int .u8 (n.k : Int), .bool n.dec, .int .i64 n.a, .int .i64 n.s, .int .i64 n.e] 36)) gtA gbA fpA ∧ Tree (wr.alloc (.cells #[.int .u8 (n.k : Int), .bool n.dec, .int .i64 n.a, .int .i64 n.s, .int .i64 n.e] 36)) gtA gbA cs ra (L.take i) fpA) := hide (by
            have t0 : Touch wr (wr.alloc (.cells #[.int .u8 (n.k : Int), .bool n.dec, .int .i64 n.a, .int .i64 n.s, .int .i64 n.e] 36)) (fun _ => False) := (Touch.refl _ _).alloc _
            exact ⟨hst.out.1.more t0, hst.out.2.touch t0 (fun h => h) (fun h => h) (fun _ _ h => h)⟩)
          clear hst d0 d1 d2 d3 d4
          generalize wr.alloc (.cells #[.int .u8 (n.k : Int), .bool n.dec, .int .i64 n.a, .int .i64 n.s, .int .i64 n.e] 36) = wx at PRE ⊢
          refine (tree_add gtA gbA cs ra c1 c2 ra1 ra2 n HADD.out wx (L.take i) htl.out fpA PRE.out.2).mono ?_
          rintro e w4 ⟨rfl, fpA', tA4, sA4⟩
          have P4 := hide (And.intro (PRE.out.1.step sA4 tA4.lt.2.2) tA4)
          rw [← HE.out] at P4
          clear tA4 sA4
          go_wp2
          go_roundw
          case rel => exact ⟨i + 1, fpA', by go_num, by omega, P4⟩
          case measure => simp [intOf]; omega
        · have hil' : i = len := by omega
          have FUL : Hid (L.take i = L) := hide (by rw [hil', ← HL.out, List.take_length])
          have hLl : Hid (L.length ≤ 32768) := hide (by rw [HL.out]; exact hml)
          rw [FUL.out] at hst
          obtain ⟨pre, bs, hsp, hTM⟩ := hst.out.2
          have ON := hide hst.out.1
          have TMH := hide hTM
          have HSP := hide hsp
          clear hTM hsp hst
          go_wp2_with fail
          refine (counts_ok gtA gbA cs ra bs.length (pre.length : Int) _ wr fpA TMH.out.mem).mono ?_
          rintro e w6 ⟨rfl, nq1, rfl⟩
          have P7 : Hid (One _ (wr.drewN nq1) gtA gbA fpA ∧ TM (wr.drewN nq1) gtA gbA cs ra pre.length bs (pre.foldl (PS.enc1 cs) PS.init) fpA) := hide (by
            have t0 : Touch wr (wr.drewN nq1) (fun _ => False) := (Touch.refl _ _).drew _
            exact ⟨ON.out.more t0, TMH.out.touch t0 (fun h => h) (fun h => h) (fun _ _ h => h)⟩)
          clear ON TMH
          generalize wr.drewN nq1 = w7 at P7 ⊢
          have SZ := enc_len cs pre
          have AL := all_len (pre.foldl (PS.enc1 cs) PS.init)
          have FIN := foldl_fin cs pre PS.init
          have h0i : PS.init.fin.length = 0 := rfl
          have hsum : pre.length + bs.length = len := by rw [← HL.out, HSP.out, List.length_append]
          have STR := hide (stream_eq cs pre)
          rw [AL]
          generalize pre.foldl (PS.enc1 cs) PS.init = S at P7 SZ FIN STR ⊢
          clear AL
          have hfle : S.fin.length ≤ 32768 := by omega
          have hUle : S.all.length ≤ 32769 := by
            unfold PS.all
            split
            · rw [List.length_append, List.length_singleton]; omega
            · simp
          have HFIN : Hid (∀ i, i < S.all.length → S.st = true ∧ S.fin.length + 1 = S.all.length) := hide (by
            intro i hi
            unfold PS.all at hi ⊢
            split at hi
            · rename_i h; simp [h]
            · simp at hi)
          have HALL : Hid (∀ i (hi : i < S.all.length), (∀ h : i < S.fin.length, S.all[i] = S.fin[i]) ∧ (i = S.fin.length → S.all[i] = S.cur) ∧ lens (S.all.take (i + 1)) = lens (S.all.take i) + (S.all[i]).length ∧ (S.all.take (i + 1)).flatten = (S.all.take i).flatten ++ S.all[i]) := hide (by
            intro i hi
            refine ⟨fun h => ?_, fun h => ?_, ?_, ?_⟩
            · have hst := (HFIN.out i hi).1
              simp only [PS.all, hst, if_true]
              rw [List.getElem_append_left h]
            · have hst := (HFIN.out i hi).1
              subst h
              simp only [PS.all, hst, if_true]
              rw [List.getElem_append_right (Nat.le_refl _)]
              simp
            · rw [List.take_succ_eq_append_getElem hi, lens_append, lens_one]
            · rw [List.take_succ_eq_append_getElem hi, List.flatten_append]; simp)
          have HTK : Hid (∀ i, lens (S.all.take i) ≤ 31 * len) := hide (fun i => Nat.le_trans (lens_take _ _) (by omega))
          obtain ⟨i5, hi5, hy0, hy1, hy2⟩ := info_parts info5
          have HPRE : Hid (∀ n ∈ pre, n.addable ∧ n.wf) := hide (fun n hn => by
            have hm : n ∈ L := by rw [HSP.out]; exact List.mem_append_left _ hn
            exact ⟨OKA.out n hm, HN.out.2.1 n hm⟩)
          clear SZ FIN h0i
          have hsI : (pre.length : Int) + (bs.length : Int) = (len : Int) := by omega
          go_wp2_with fail
          clear hsI
          have T7 : Hid (Touch w w7 (fun _ => False)) := hide (ht.out.trans P7.out.1.touch (fun _ _ h => h))
          have HEQ : Hid ((∀ q (h : q < pre.length) (h' : q < L.length), L[q] = pre[q]) ∧ ∀ r (h : r < bs.length) (h' : pre.length + r < L.length), L[pre.length + r] = bs[r]) := hide (nodes_split HSP.out)
          go_loopw [14, 15] (fun vs vi wq => ∃ (i : Nat), vi = .int .i64 (i : Int) ∧ (i = 0 ∨ i + 1 ≤ S.all.length) ∧ Hid (wq.ownsRow w7.heap.size 5 1 vs (lens (S.all.take i)) (Lib.byteCells (S.all.take i).flatten)) ∧ Hid (Touch w7 wq (fun _ => False))) (fun _ vi _ => S.all.length - (intOf vi).toNat)
          case atStart => exact ⟨0, rfl, .inl rfl, hide (World.ownsRow_nil w7 _ 5 1), hide (Touch.refl _ _)⟩
          case round =>
            obtain ⟨i, rfl, hi, hown, htq⟩ := hrel
            by_cases hiU : i + 1 < S.all.length
            · obtain ⟨hst, hUf⟩ := HFIN.out i (by omega)
              obtain ⟨b1, b2, b3, b4⟩ := HALL.out i (by omega)
              have hif : i < S.fin.length := by omega
              rw [b1 hif] at b3 b4
              have hTM := P7.out.2.touch htq.out (fun h => h) (fun h => h) (fun _ _ h => h)
              have k1 := hide (chunk_ok gtA cs _ _ S (by omega) i hif wr fpA hTM.mem)
              clear hTM b1 b2
              generalize S.fin[i] = cu at b3 b4 k1
              have B3 := hide b3
              have B4 := hide b4
              have hb0 := HTK.out i
              have hb1 := HTK.out (i + 1)
              rw [b3] at hb1
              clear b3 b4 hUf
              go_wp2_with fail
              refine k1.out.mono ?_
              rintro e wz ⟨ga, rfl, ca, rfl⟩
              have CA := hide ca
              clear ca
              have hown1 := hown.out
              go_wp2_with (at_builtin; refine wpList_append_own _ rfl _ _ 22 rfl w7.heap.size 5 i5 (.int .u8 0) 1 1 Try.underlying22 hi5 hy0 hy1 hy2 rfl (by decide) _ _ _ rfl hown1 ⟨ga, 0, none⟩ cu.length cs (Lib.byteCells cu) rfl (by rw [byteCells_length, Nat.mul_one]) (newsB CA.out) (oneB cu) (by unfold maxLen; omega) (by omega) htq.out.size ?_)
              intro v' w1 hown' hgrow _
              have R := after_app hown1 htq.out hown' hgrow
              rw [← B3.out, ← B4.out] at R
              rw [← B3.out] at hb1
              clear hown' hgrow hown1 hb0 B3 B4 CA k1
              obtain ⟨ao, cp, rfl⟩ := form R.1
              have HR := hide R
              clear R
              generalize hT1 : lens (S.all.take (i + 1)) = t1 at hb1 HR ⊢
              have HT1 := hide hT1
              clear hT1
              have hng : ¬ (31 * (len : Int) < (t1 : Int)) := by omega
              go_wp2
              refine ⟨⟨_, _, _, ⟨i + 1, by go_num, by omega, hide (by rw [HT1.out]; exact HR.out.1), hide HR.out.2⟩, rfl, rfl, rfl⟩, ?_⟩
              simp [intOf]; omega
            · by_cases hU : 0 < S.all.length
              · obtain ⟨hst, hUf⟩ := HFIN.out i (by omega)
                obtain ⟨b1, b2, b3, b4⟩ := HALL.out i (by omega)
                have hif : i = S.fin.length := by omega
                rw [b2 hif] at b3 b4
                have hfull : S.all.take (i + 1) = S.all := List.take_of_length_le (by omega)
                have hTM := P7.out.2.touch htq.out (fun h => h) (fun h => h) (fun _ _ h => h)
                have k1 := hide (writing_ok gtA cs _ _ S hst wr fpA hTM.mem)
                clear hTM b1 b2
                generalize S.cur = cu at b3 b4 k1
                have hb0 := HTK.out i
                have hb1 := HTK.out (i + 1)
                rw [b3] at hb1
                rw [hfull] at b3 b4
                have B3 := hide b3
                have B4 := hide b4
                clear b3 b4 hUf hfull hif
                go_wp2_with fail
                refine k1.out.mono ?_
                rintro e wz ⟨ga, rfl, ca, rfl⟩
                have CA := hide ca
                clear ca
                have hown1 := hown.out
                go_wp2_with (at_builtin; refine wpList_append_own _ rfl _ _ 22 rfl w7.heap.size 5 i5 (.int .u8 0) 1 1 Try.underlying22 hi5 hy0 hy1 hy2 rfl (by decide) _ _ _ rfl hown1 ⟨ga, 0, none⟩ cu.length cs (Lib.byteCells cu) rfl (by rw [byteCells_length, Nat.mul_one]) (newsB CA.out) (oneB cu) (by unfold maxLen; omega) (by omega) htq.out.size ?_)
                intro v' w1 hown' hgrow _
                have R := after_app hown1 htq.out hown' hgrow
                rw [← B3.out, ← B4.out, ← lens_flat] at R
                rw [← B3.out, ← lens_flat] at hb1
                clear hown' hgrow hown1 hb0 B3 B4 CA k1
                obtain ⟨ao, cp, rfl, hch⟩ := toCh R.1
                have R2 := hide R.2
                have DEC := hide (decode_ok cs cp pre HPRE.out (by omega) ao S.all.flatten (by omega) STR.out w1 hch)
                clear R hch
                generalize S.all.flatten = l at DEC hb1 ⊢
                go_wp2_with fail
                refine DEC.out.mono ?_
                rintro e w8 ⟨v2, rfl, hown8, ht8⟩
                obtain ⟨ao2, cp2, rfl⟩ := form hown8
                have OWN8 := hide hown8
                have T8 := hide (R2.out.trans ht8 (fun _ _ h => h))
                clear hown8 ht8 R2 DEC
                go_wp2_with fail
                go_loopw [18] (fun vi wq => ∃ (q : Nat), vi = .int .i64 (q : Int) ∧ q ≤ pre.length ∧ Hid (Touch w8 wq (fun _ => False))) (fun vi _ => pre.length - (intOf vi).toNat)
                case atStart => exact ⟨0, rfl, Nat.zero_le _, hide (Touch.refl _ _)⟩
                case round =>
                  obtain ⟨q, rfl, hq, htr⟩ := hrel
                  by_cases hqp : q < pre.length
                  · obtain ⟨g2, cp3, he2, hg2, hn2⟩ := got_at OWN8.out q hqp
                    simp only [Value.slice.injEq, true_and] at he2
                    obtain ⟨rfl, rfl⟩ := he2
                    have hn3 := hn2.touch htr.out (fun h => h)
                    have hglt := hn3.lt
                    obtain ⟨b, o, rfl, hb, hl, hnode⟩ := HN.out.at (T7.out.trans (T8.out.trans htr.out (fun _ _ h => h)) (fun _ _ h => h)) q (by omega)
                    rw [HEQ.out.1 q hqp hl] at hnode
                    clear hn2 hg2
                    generalize pre[q] = n at hn3 hnode
                    obtain ⟨d0, d1, d2, d3, d4⟩ := hn3
                    obtain ⟨f0, f1, f2, f3, f4⟩ := hnode
                    go_wp2_with fail
                    go_quiet (fail)
                    go_wp2
                    go_roundw
                    case rel => exact ⟨q + 1, by go_num, by omega, hide (htr.out.drew _)⟩
                    case measure => simp [intOf]; omega
                  · go_wp2_with fail
                    go_loopw [19] (fun vi wq => ∃ (r : Nat), vi = .int .i64 (r : Int) ∧ r ≤ bs.length ∧ Hid (Touch w8 wq (fun _ => False))) (fun vi _ => bs.length - (intOf vi).toNat)
                    case atStart => exact ⟨0, rfl, Nat.zero_le _, htr⟩
                    case round =>
                      clear htr
                      obtain ⟨r, rfl, hr, htr⟩ := hrel
                      by_cases hrb : r < bs.length
                      · have hTM := P7.out.2.touch (T8.out.trans htr.out (fun _ _ h => h)) (fun h => h) (fun h => h) (fun _ _ h => h)
                        have kb := hide (batch_ok gtA gbA cs ra pre.length ra2 bs S wr fpA hTM r hrb)
                        obtain ⟨b, o, rfl, hb, hl, hnode⟩ := HN.out.at (T7.out.trans (T8.out.trans htr.out (fun _ _ h => h)) (fun _ _ h => h)) (pre.length + r) (by omega)
                        rw [HEQ.out.2 r hrb hl] at hnode
                        clear hTM
                        generalize bs[r] = n at kb hnode
                        have HND := hide hnode
                        clear hnode
                        go_wp2_with fail
                        refine kb.out.mono ?_
                        rintro e wz ⟨rfl, tz⟩
                        obtain ⟨f0, f1, f2, f3, f4⟩ := HND.out.touch tz (fun h => h)
                        have hbz : b < wz.heap.size := (HND.out.touch tz (fun h => h)).lt
                        have TZ := hide (htr.out.trans tz (fun _ _ h => h))
                        clear tz HND kb htr
                        go_wp2
                        go_roundw
                        case rel => exact ⟨r + 1, by go_num, by omega, TZ⟩
                        case measure => simp [intOf]; omega
                      · go_wp2
                        go_ret
                        exact ⟨rfl, (T7.out.trans (T8.out.trans htr.out (fun _ _ h => h)) (fun _ _ h => h)).below⟩
              · have hU0 : S.all = [] := List.eq_nil_of_length_eq_zero (by omega)
                have hi0 : i = 0 := by omega
                have hb1 := HTK.out S.all.length
                rw [List.take_length, ← lens_flat] at hb1
                have e1 : lens ([] : List (List UInt8)) = S.all.flatten.length := by rw [hU0]; rfl
                have e2 : ([] : List (List UInt8)).flatten = S.all.flatten := by rw [hU0]
                have R := And.intro hown.out htq.out
                rw [hi0, List.take_zero, e1, e2] at R
                clear hU0 hi0 e1 e2
                obtain ⟨ao, cp, rfl, hch⟩ := toCh R.1
                have R2 := hide R.2
                have DEC := hide (decode_ok cs cp pre HPRE.out (by omega) ao S.all.flatten (by omega) STR.out wr hch)
                clear R hch
                generalize S.all.flatten = l at DEC hb1 ⊢
                go_wp2_with fail
                refine DEC.out.mono ?_
                rintro e w8 ⟨v2, rfl, hown8, ht8⟩
                obtain ⟨ao2, cp2, rfl⟩ := form hown8
                have OWN8 := hide hown8
                have T8 := hide (R2.out.trans ht8 (fun _ _ h => h))
                clear hown8 ht8 R2 DEC
                go_wp2_with fail
                go_loopw [18] (fun vi wq => ∃ (q : Nat), vi = .int .i64 (q : Int) ∧ q ≤ pre.length ∧ Hid (Touch w8 wq (fun _ => False))) (fun vi _ => pre.length - (intOf vi).toNat)
                case atStart => exact ⟨0, rfl, Nat.zero_le _, hide (Touch.refl _ _)⟩
                case round =>
                  obtain ⟨q, rfl, hq, htr⟩ := hrel
                  by_cases hqp : q < pre.length
                  · obtain ⟨g2, cp3, he2, hg2, hn2⟩ := got_at OWN8.out q hqp
                    simp only [Value.slice.injEq, true_and] at he2
                    obtain ⟨rfl, rfl⟩ := he2
                    have hn3 := hn2.touch htr.out (fun h => h)
                    have hglt := hn3.lt
                    obtain ⟨b, o, rfl, hb, hl, hnode⟩ := HN.out.at (T7.out.trans (T8.out.trans htr.out (fun _ _ h => h)) (fun _ _ h => h)) q (by omega)
                    rw [HEQ.out.1 q hqp hl] at hnode
                    clear hn2 hg2
                    generalize pre[q] = n at hn3 hnode
                    obtain ⟨d0, d1, d2, d3, d4⟩ := hn3
                    obtain ⟨f0, f1, f2, f3, f4⟩ := hnode
                    go_wp2_with fail
                    go_quiet (fail)
                    go_wp2
                    go_roundw
                    case rel => exact ⟨q + 1, by go_num, by omega, hide (htr.out.drew _)⟩
                    case measure => simp [intOf]; omega
                  · go_wp2_with fail
                    go_loopw [19] (fun vi wq => ∃ (r : Nat), vi = .int .i64 (r : Int) ∧ r ≤ bs.length ∧ Hid (Touch w8 wq (fun _ => False))) (fun vi _ => bs.length - (intOf vi).toNat)
                    case atStart => exact ⟨0, rfl, Nat.zero_le _, htr⟩
                    case round =>
                      clear htr
                      obtain ⟨r, rfl, hr, htr⟩ := hrel
                      by_cases hrb : r < bs.length
                      · have hTM := P7.out.2.touch (T8.out.trans htr.out (fun _ _ h => h)) (fun h => h) (fun h => h) (fun _ _ h => h)
                        have kb := hide (batch_ok gtA gbA cs ra pre.length ra2 bs S wr fpA hTM r hrb)
                        obtain ⟨b, o, rfl, hb, hl, hnode⟩ := HN.out.at (T7.out.trans (T8.out.trans htr.out (fun _ _ h => h)) (fun _ _ h => h)) (pre.length + r) (by omega)
                        rw [HEQ.out.2 r hrb hl] at hnode
                        clear hTM
                        generalize bs[r] = n at kb hnode
                        have HND := hide hnode
                        clear hnode
                        go_wp2_with fail
                        refine kb.out.mono ?_
                        rintro e wz ⟨rfl, tz⟩
                        obtain ⟨f0, f1, f2, f3, f4⟩ := HND.out.touch tz (fun h => h)
                        have hbz : b < wz.heap.size := (HND.out.touch tz (fun h => h)).lt
                        have TZ := hide (htr.out.trans tz (fun _ _ h => h))
                        clear tz HND kb htr
                        go_wp2
                        go_roundw
                        case rel => exact ⟨r + 1, by go_num, by omega, TZ⟩
                        case measure => simp [intOf]; omega
                      · go_wp2
                        go_ret
                        exact ⟨rfl, (T7.out.trans (T8.out.trans htr.out (fun _ _ h => h)) (fun _ _ h => h)).below⟩

end Go.Proofs.Qxb6615701a
