/-
  encodeShort (36).
-/
import Derived.Test.Qxb6615701aTlongw
import Derived.Laws.BitsAllLaws
namespace Go.Proofs.Qxb6615701a
open Go Go.RowKit
set_option linter.unusedVariables false

/-- The node takes the short form, in the room that there is. -/
def PS.fits (S : PS) (cs : Nat) (n : Nd) : Prop := (w64 (n.a - S.la) < 256 ∧ w64 (n.e - n.s) < 256) ∧ n.dec = false ∧ 3 ≤ S.room cs
instance (S : PS) (cs : Nat) (n : Nd) : Decidable (S.fits cs n) := by unfold PS.fits; exact inferInstance
def Nd.hds (n : Nd) : Nat := n.k * 2 + (if n.a < n.s then 1 else 0)
def PS.short (S : PS) (n : Nd) : PS := { S with cur := S.cur ++ [n.hds.toUInt8, (w64 (n.a - S.la)).toUInt8, (w64 (n.e - n.s)).toUInt8], la := n.a }
def PS.enc1 (cs : Nat) (S : PS) (n : Nd) : PS := if S.fits cs n then S.short n else S.long cs n

theorem or256 (x y : Nat) (hx : x < 18446744073709551616) (hy : y < 18446744073709551616) : bits .or .u64 (x : Int) (y : Int) = ((x ||| y : Nat) : Int) := u64_or_nat x y hx hy
theorem or_lt (x y : Nat) : x ||| y < 256 ↔ x < 256 ∧ y < 256 := by
  constructor
  · intro h
    have := @Nat.left_le_or x y
    have := @Nat.right_le_or x y
    omega
  · intro h
    exact Nat.or_lt_two_pow (n := 8) h.1 h.2
theorem orS (k : Nat) (hk : k ≤ 4) : bits .or .u8 ((k : Int) * 2) 1 = (k : Int) * 2 + 1 := by
  match k, hk with
  | 0, _ => decide
  | 1, _ => decide
  | 2, _ => decide
  | 3, _ => decide
  | 4, _ => decide

theorem Ch.frozen {w : World} {g cs : Nat} {l : List UInt8} (h : Ch w g cs l) (j : Nat) : w.frozen? ⟨g, j, none⟩ = false := by
  obtain ⟨cur, h1, _⟩ := h
  exact h1.frozen j
theorem ch_push3 {w : World} {g cs : Nat} {l : List UInt8} {a b c : Nat} (h : Ch w g cs l) (hr : l.length + 3 ≤ cs) (ha : a < 256) (hb : b < 256) (hc : c < 256) :
    Ch (((w.setCell ⟨g, l.length, none⟩ (.int .u8 (a : Int))).setCell ⟨g, l.length + 1, none⟩ (.int .u8 (b : Int))).setCell ⟨g, l.length + 2, none⟩ (.int .u8 (c : Int))) g cs (l ++ [a.toUInt8, b.toUInt8, c.toUInt8]) := by
  have h1 := ch_push h (by omega) ha
  have h2 := ch_push h1 (by simp; omega) hb
  have h3 := ch_push h2 (by simp; omega) hc
  simpa [List.append_assoc] using h3

/-- The slice that is being written, out of the state. -/
structure Wr (S : PS) (gl cs : Nat) (fa : Option Addr) (fl fc : Nat) : Prop where
  le : fl ≤ fc
  fcs : fc = 0 ∨ fc = cs
  room : S.room cs = fc - fl
  row : S.st = true → fa = some ⟨gl, 0, none⟩ ∧ fc = cs ∧ fl = S.cur.length
  nil : S.st = false → fa = none ∧ fl = 0 ∧ fc = 0

/-- What stands behind encodeShort. -/
def ShortPost (w w' : World) (gt gl cs : Nat) (v2 v3 v5 v6 : Value) (S : PS) (bs : List Nd) (i j : Nat) (fa : Option Addr) (fc : Nat) : Prop :=
  ∃ S' fl', S' = ((bs.take j).drop i).foldl (PS.enc1 cs) S ∧ (S'.ld = S.ld ∧ S'.fin = S.fin ∧ S'.st = S.st) ∧ Wr S' gl cs fa fl' fc ∧ Tr w' gt cs v2 v3 v5 v6 (.slice fa fl' fc) (.int .i64 S'.la) (.int .i64 S.ld) ∧ (S'.st = true → Ch w' gl cs S'.cur) ∧ Touch w w' (fun k => k = gt ∨ k = gl) ∧ ∀ hj : j < bs.length, ¬ S'.fits cs bs[j]

theorem short_exit {w wr : World} {gt gl cs i j fl fl' fc : Nat} {v2 v3 v5 v6 : Value} {S S' : PS} {bs : List Nd} {fa : Option Addr} (hW : Tr w gt cs v2 v3 v5 v6 (.slice fa fl fc) (.int .i64 S.la) (.int .i64 S.ld)) (g1 : gl ≠ gt) (hW' : Wr S' gl cs fa fl' fc) (hS' : S' = ((bs.take j).drop i).foldl (PS.enc1 cs) S) (hK' : S'.ld = S.ld ∧ S'.fin = S.fin ∧ S'.st = S.st) (hC' : S'.st = true → Ch wr gl cs S'.cur) (hT' : Touch w wr (fun k => k = gl)) (hfit : ∀ hj : j < bs.length, ¬ S'.fits cs bs[j]) :
    ShortPost w ((wr.setCell ⟨gt, 7, none⟩ (.slice fa fl' fc)).setCell ⟨gt, 10, none⟩ (.int .i64 S'.la)) gt gl cs v2 v3 v5 v6 S bs i j fa fc := by
  refine ⟨S', fl', hS', hK', hW', (((hW.touch hT' (fun e => g1 e.symm)).set7 _).set10 _), fun h => ((hC' h).other gt 7 _ (fun e => g1 e.symm)).other gt 10 _ (fun e => g1 e.symm), ?_, hfit⟩
  exact ((hT'.mono (fun i _ h => .inr h)).set gt 7 _ (fun _ => .inl rfl)).set gt 10 _ (fun _ => .inl rfl)

theorem short_step {S S' : PS} {gl cs fl' fc i j : Nat} {fa : Option Addr} {bs : List Nd} {n : Nd} (hlt : j < bs.length) (hn : bs[j] = n) (hij : i ≤ j) (hW' : Wr S' gl cs fa fl' fc) (hS' : S' = ((bs.take j).drop i).foldl (PS.enc1 cs) S) (hK' : S'.ld = S.ld ∧ S'.fin = S.fin ∧ S'.st = S.st) (hf : S'.fits cs n) :
    Wr (S'.short n) gl cs fa (fl' + 3) fc ∧ (S'.short n) = ((bs.take (j + 1)).drop i).foldl (PS.enc1 cs) S ∧ ((S'.short n).ld = S.ld ∧ (S'.short n).fin = S.fin ∧ (S'.short n).st = S.st) ∧ S'.st = true := by
  have hst : S'.st = true := by
    by_cases h : S'.st = true
    · exact h
    · have := hf.2.2
      rw [PS.room, if_neg h] at this
      omega
  have h3 := hf.2.2
  rw [hW'.room] at h3
  obtain ⟨r1, r2, r3⟩ := hW'.row hst
  refine ⟨⟨by omega, hW'.fcs, ?_, fun _ => ⟨r1, r2, ?_⟩, fun h => ?_⟩, ?_, hK', hst⟩
  · simp only [PS.room, PS.short, hst, if_true, List.length_append, List.length_cons, List.length_nil]
    omega
  · simp only [PS.short, List.length_append, List.length_cons, List.length_nil]
    omega
  · simp only [PS.short, hst] at h
    cases h
  · have e : (bs.take (j + 1)).drop i = (bs.take j).drop i ++ [n] := by
      rw [List.take_succ_eq_append_getElem hlt, List.drop_append_of_le_length (by rw [List.length_take]; omega), hn]
    rw [e, List.foldl_append, ← hS']
    simp [PS.enc1, hf]

set_option maxHeartbeats 4000000 in
set_option maxRecDepth 100000 in
theorem short_raw (gt gb gl cs room : Nat) (hcs : cs ≤ 65536) (v3 v5 v6 : Value) (S : PS) (bs : List Nd) (hbs : bs.length ≤ 65536) (i : Nat) (hi : i ≤ bs.length) (fa : Option Addr) (fl fc : Nat) (hwr : Wr S gl cs fa fl fc) (w : World)
    (hw : Tr w gt cs (.slice (some ⟨gb, 0, none⟩) bs.length room) v3 v5 v6 (.slice fa fl fc) (.int .i64 S.la) (.int .i64 S.ld)) (hch : S.st = true → Ch w gl cs S.cur) (hn : ∀ j (hj : j < bs.length), NodeAt w gb (j * 5) bs[j]) (hok : ∀ n ∈ bs, n.k ≤ 4 ∧ n.e ≠ -1) (g1 : gl ≠ gt) (g2 : gb ≠ gl) (g3 : gb ≠ gt) :
    Calls Try.prog 36 #[.pointer (some ⟨gt, 0, none⟩), .int .i64 (i : Int)] w fun e w' => ∃ j : Nat, e = .returned (.int .i64 (j : Int)) ∧ i ≤ j ∧ j ≤ bs.length ∧ ShortPost w w' gt gl cs (.slice (some ⟨gb, 0, none⟩) bs.length room) v3 v5 v6 S bs i j fa fc := by
  have hwl := hwr.le
  have hwf := hwr.fcs
  obtain ⟨c2, c3, c5, c6, c7, c8, c10, c11⟩ := hw.cells
  have hf := hw.frozen
  have HW := hide hw
  have HN := hide hn
  have HOK := hide hok
  have HWR := hide hwr
  have HCH := hide hch
  have g1' : ¬ gt = gl := fun e => g1 e.symm
  have g2' : ¬ gl = gb := fun e => g2 e.symm
  have g3' : ¬ gt = gb := fun e => g3 e.symm
  clear hw hn hok hwr hch
  go_enter Try.func36, Try.ntmps36
  go_wp2_with fail
  go_quiet (fail)
  have hw1 : Hid (Tr (w.drewN nq) gt cs (.slice (some ⟨gb, 0, none⟩) bs.length room) v3 v5 v6 (.slice fa fl fc) (.int .i64 S.la) (.int .i64 S.ld)) := HW
  have ht1 : Hid (Touch w (w.drewN nq) (fun k => k = gl)) := hide ((Touch.refl _ _).drew nq)
  have HC1 : Hid (S.st = true → Ch (w.drewN nq) gl cs S.cur) := hide (fun h => (HCH.out h).touch ((Touch.refl _ (fun _ => False)).drew nq) (fun h => h))
  clear c2 c3 c5 c6 c7 c8 c10 c11 hf
  generalize w.drewN nq = w1 at hw1 ht1 HC1 ⊢
  clear nq
  go_wp2_with fail
  go_loopw [1, 6, 7] (fun vi vc vl wr => ∃ (j : Nat) (S' : PS) (fl' : Nat), vi = .int .i64 (j : Int) ∧ vc = .slice fa fl' fc ∧ vl = .int .i64 S'.la ∧ i ≤ j ∧ j ≤ bs.length ∧ Hid (Wr S' gl cs fa fl' fc) ∧ Hid (S' = ((bs.take j).drop i).foldl (PS.enc1 cs) S) ∧ Hid (S'.ld = S.ld ∧ S'.fin = S.fin ∧ S'.st = S.st) ∧ Hid (S'.st = true → Ch wr gl cs S'.cur) ∧ Hid (Touch w wr (fun k => k = gl)))
    (fun vi _ _ _ => bs.length - (intOf vi).toNat)
  case atStart => exact ⟨i, S, fl, rfl, rfl, rfl, Nat.le_refl _, hi, HWR, by simp [Hid], hide ⟨rfl, rfl, rfl⟩, HC1, ht1⟩
  case round =>
    obtain ⟨j, S', fl', rfl, rfl, rfl, hij, hjn, hW', hS', hK', hC', hT'⟩ := hrel
    by_cases hlt : j < bs.length
    · have hnode := (HN.out j hlt).touch hT'.out g2
      have hok := HOK.out _ (List.getElem_mem hlt)
      have hw' := hW'.out.le
      have hwr2 := hW'.out.fcs
      generalize hbj : bs[j] = n at hnode hok
      have HBJ := hide hbj
      clear hbj
      obtain ⟨k, dec, na, ns, ne⟩ := n
      obtain ⟨d0, d1, d2, d3, d4⟩ := hnode
      simp only at d0 d1 d2 d3 d4 hok
      obtain ⟨hk, he⟩ := hok
      have hne : (ne == -1) = false := by simpa using he
      have D1 := w64_walk (na - S'.la)
      have D2 := w64_walk (ne - ns)
      have L1 := hide (w64_lt (na - S'.la))
      have L2 := hide (w64_lt (ne - ns))
      generalize hx1 : w64 (na - S'.la) = x1 at D1 L1
      generalize hx2 : w64 (ne - ns) = x2 at D2 L2
      have OR := or256 x1 x2 L1.out L2.out
      have OL := hide (or_lt x1 x2)
      generalize x1 ||| x2 = y at OR OL
      have bS := orS k hk
      have HX1 := hide hx1
      have HX2 := hide hx2
      clear hx1 hx2
      go_wp2_with fail
      go_quiet (fail)
      have hT2 : Hid (Touch w (wr.drewN nq) (fun k => k = gl)) := hide (hT'.out.drew nq)
      have hC2 : Hid (S'.st = true → Ch (wr.drewN nq) gl cs S'.cur) := hide (fun h => (hC'.out h).touch ((Touch.refl _ (fun _ => False)).drew nq) (fun h => h))
      clear d0 d1 d2 d3 d4 hT' hC'
      generalize wr.drewN nq = wr2 at hT2 hC2 ⊢
      clear nq
      have hnode := (HN.out j hlt).touch hT2.out g2
      rw [HBJ.out] at hnode
      obtain ⟨d0, d1, d2, d3, d4⟩ := hnode
      simp only at d0 d1 d2 d3 d4
      go_wp2_with fail
      go_quiet (fail)
      have hT3 : Hid (Touch w (wr2.drewN nq) (fun k => k = gl)) := hide (hT2.out.drew nq)
      have hC3 : Hid (S'.st = true → Ch (wr2.drewN nq) gl cs S'.cur) := hide (fun h => (hC2.out h).touch ((Touch.refl _ (fun _ => False)).drew nq) (fun h => h))
      clear d0 d1 d2 d3 d4 hT2 hC2
      generalize wr2.drewN nq = wr3 at hT3 hC3 ⊢
      clear nq
      have hnode := (HN.out j hlt).touch hT3.out g2
      rw [HBJ.out] at hnode
      obtain ⟨d0, d1, d2, d3, d4⟩ := hnode
      simp only at d0 d1 d2 d3 d4
      obtain ⟨c2, c3, c5, c6, c7, c8, c10, c11⟩ := (HW.out.touch hT3.out g1').cells
      have hf := (HW.out.touch hT3.out g1').frozen
      by_cases hA : y < 256
      · have hA' : ¬ (256 : Int) ≤ (y : Int) := by omega
        cases dec with
        | true =>
          go_wp2
          all_goals go_ret
          all_goals exact ⟨j, rfl, hij, hjn, short_exit HW.out g1 hW'.out hS'.out hK'.out hC3.out hT3.out (fun h hf => by rw [HBJ.out] at hf; exact absurd hf.2.1 (by simp))⟩
        | false =>
          by_cases hR : fc - fl' < 3
          · have hR' : (fc : Int) - (fl' : Int) < 3 := by omega
            go_wp2
            all_goals go_ret
            all_goals exact ⟨j, rfl, hij, hjn, short_exit HW.out g1 hW'.out hS'.out hK'.out hC3.out hT3.out (fun h hf => by have := hf.2.2; rw [hW'.out.room] at this; omega)⟩
          · have hR' : ¬ (fc : Int) - (fl' : Int) < 3 := by omega
            have hxx := OL.out.1 hA
            have hfit : S'.fits cs ⟨k, false, na, ns, ne⟩ := ⟨⟨by rw [HX1.out]; exact hxx.1, by rw [HX2.out]; exact hxx.2⟩, rfl, by rw [hW'.out.room]; omega⟩
            have ST := hide (short_step hlt HBJ.out hij hW'.out hS'.out hK'.out hfit)
            obtain ⟨rfl, rfl, rfl⟩ := hW'.out.row ST.out.2.2.2
            have hch := hC3.out ST.out.2.2.2
            have HCh := hide hch
            have hx1 := hxx.1
            have hx2 := hxx.2
            have hfl3 : S'.cur.length + 3 ≤ fc := by omega
            obtain ⟨q0, hq0⟩ := Option.isSome_iff_exists.1 (hch.some S'.cur.length (by omega)).1
            obtain ⟨q1, hq1⟩ := Option.isSome_iff_exists.1 (hch.some (S'.cur.length + 1) (by omega)).1
            obtain ⟨q2, hq2⟩ := Option.isSome_iff_exists.1 (hch.some (S'.cur.length + 2) (by omega)).1
            have hz := hch.frozen
            clear hch hxx hfit
            by_cases hs : na < ns
            · have e1 : Hid ((k : Int) * 2 + 1 = ((Nd.hds ⟨k, false, na, ns, ne⟩ : Nat) : Int)) := hide (by simp only [Nd.hds, hs, if_true]; omega)
              go_wp2_with fail
              go_quiet (fail)
              have hchE : Hid (Ch ((((wr3.setCell ⟨gl, S'.cur.length, none⟩ (.int .u8 ((k : Int) * 2 + 1))).setCell ⟨gl, S'.cur.length + 1, none⟩ (.int .u8 (x1 : Int))).setCell ⟨gl, S'.cur.length + 2, none⟩ (.int .u8 (x2 : Int))).drewN nq) gl fc (S'.short ⟨k, false, na, ns, ne⟩).cur) := by
                have hh := ch_push3 (a := Nd.hds ⟨k, false, na, ns, ne⟩) HCh.out hfl3 (by have := e1.out; omega) hx1 hx2
                rw [← e1.out] at hh
                have := hh.touch ((Touch.refl _ (fun _ => False)).drew nq) (fun h => h)
                simp only [PS.short, HX1.out, HX2.out]
                exact this
              have htE : Hid (Touch w ((((wr3.setCell ⟨gl, S'.cur.length, none⟩ (.int .u8 ((k : Int) * 2 + 1))).setCell ⟨gl, S'.cur.length + 1, none⟩ (.int .u8 (x1 : Int))).setCell ⟨gl, S'.cur.length + 2, none⟩ (.int .u8 (x2 : Int))).drewN nq) (fun k => k = gl)) := hide ((((hT3.out.set gl _ _ (fun _ => rfl)).set gl _ _ (fun _ => rfl)).set gl _ _ (fun _ => rfl)).drew nq)
              generalize (((wr3.setCell ⟨gl, S'.cur.length, none⟩ (.int .u8 ((k : Int) * 2 + 1))).setCell ⟨gl, S'.cur.length + 1, none⟩ (.int .u8 (x1 : Int))).setCell ⟨gl, S'.cur.length + 2, none⟩ (.int .u8 (x2 : Int))).drewN nq = wr4 at hchE htE ⊢
              go_wp2
              go_roundw
              case rel => exact ⟨j + 1, S'.short ⟨k, false, na, ns, ne⟩, S'.cur.length + 3, by go_num, rfl, rfl, by omega, by omega, hide ST.out.1, hide ST.out.2.1, hide ST.out.2.2.1, hide (fun _ => hchE.out), htE⟩
              case measure => simp [intOf]; omega
            · have e1 : Hid ((k : Int) * 2 = ((Nd.hds ⟨k, false, na, ns, ne⟩ : Nat) : Int)) := hide (by simp only [Nd.hds, hs, if_false]; omega)
              go_wp2_with fail
              go_quiet (fail)
              have hchE : Hid (Ch ((((wr3.setCell ⟨gl, S'.cur.length, none⟩ (.int .u8 ((k : Int) * 2))).setCell ⟨gl, S'.cur.length + 1, none⟩ (.int .u8 (x1 : Int))).setCell ⟨gl, S'.cur.length + 2, none⟩ (.int .u8 (x2 : Int))).drewN nq) gl fc (S'.short ⟨k, false, na, ns, ne⟩).cur) := by
                have hh := ch_push3 (a := Nd.hds ⟨k, false, na, ns, ne⟩) HCh.out hfl3 (by have := e1.out; omega) hx1 hx2
                rw [← e1.out] at hh
                have := hh.touch ((Touch.refl _ (fun _ => False)).drew nq) (fun h => h)
                simp only [PS.short, HX1.out, HX2.out]
                exact this
              have htE : Hid (Touch w ((((wr3.setCell ⟨gl, S'.cur.length, none⟩ (.int .u8 ((k : Int) * 2))).setCell ⟨gl, S'.cur.length + 1, none⟩ (.int .u8 (x1 : Int))).setCell ⟨gl, S'.cur.length + 2, none⟩ (.int .u8 (x2 : Int))).drewN nq) (fun k => k = gl)) := hide ((((hT3.out.set gl _ _ (fun _ => rfl)).set gl _ _ (fun _ => rfl)).set gl _ _ (fun _ => rfl)).drew nq)
              generalize (((wr3.setCell ⟨gl, S'.cur.length, none⟩ (.int .u8 ((k : Int) * 2))).setCell ⟨gl, S'.cur.length + 1, none⟩ (.int .u8 (x1 : Int))).setCell ⟨gl, S'.cur.length + 2, none⟩ (.int .u8 (x2 : Int))).drewN nq = wr4 at hchE htE ⊢
              go_wp2
              go_roundw
              case rel => exact ⟨j + 1, S'.short ⟨k, false, na, ns, ne⟩, S'.cur.length + 3, by go_num, rfl, rfl, by omega, by omega, hide ST.out.1, hide ST.out.2.1, hide ST.out.2.2.1, hide (fun _ => hchE.out), htE⟩
              case measure => simp [intOf]; omega
      · have hA' : (256 : Int) ≤ (y : Int) := by omega
        go_wp2
        all_goals go_ret
        all_goals exact ⟨j, rfl, hij, hjn, short_exit HW.out g1 hW'.out hS'.out hK'.out hC3.out hT3.out (fun h hf => by rw [HBJ.out] at hf; have := hf.1; rw [HX1.out, HX2.out] at this; exact hA (OL.out.2 this))⟩
    · obtain ⟨c2, c3, c5, c6, c7, c8, c10, c11⟩ := (HW.out.touch hT'.out g1').cells
      have hf := (HW.out.touch hT'.out g1').frozen
      go_wp2
      go_ret
      exact ⟨j, rfl, hij, hjn, short_exit HW.out g1 hW'.out hS'.out hK'.out hC'.out hT'.out (fun h => absurd h hlt)⟩
end Go.Proofs.Qxb6615701a
