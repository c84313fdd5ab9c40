/-
  encodeShort (36) and encode (30), of a tree.
-/
import Derived.Test.Qxb6615701aTsh
namespace Go.Proofs.Qxb6615701a
open Go Go.RowKit
set_option linter.unusedVariables false

abbrev btV (gb n room : Nat) : Value := .slice (some ⟨gb, 0, none⟩) n room

theorem short_ok (gt gb cs room : Nat) (hcs : cs ≤ 65536) (v3 : Value) (S : PS) (bs : List Nd) (hbs : bs.length ≤ 65536) (i : Nat) (hi : i ≤ bs.length) (w : World) (fp : List Nat)
    (hm : Mem w gt cs (btV gb bs.length room) v3 S fp) (hn : ∀ j (hj : j < bs.length), NodeAt w gb (j * 5) bs[j]) (hok : ∀ n ∈ bs, n.k ≤ 4 ∧ n.e ≠ -1) (hgb : gb < w.heap.size) (hb : gb ≠ gt) (hbf : gb ∉ fp) :
    Calls Try.prog 36 #[.pointer (some ⟨gt, 0, none⟩), .int .i64 (i : Int)] w fun e w' => ∃ (j : Nat) (S' : PS), e = .returned (.int .i64 (j : Int)) ∧ i ≤ j ∧ j ≤ bs.length ∧ S' = ((bs.take j).drop i).foldl (PS.enc1 cs) S ∧ Mem w' gt cs (btV gb bs.length room) v3 S' fp ∧ Step w w' gt fp fp ∧ ∀ hj : j < bs.length, ¬ S'.fits cs bs[j] := by
  obtain ⟨v5, v7, tr, row, hg⟩ := hm
  have hgt := tr.lt
  have key : ∀ S' : PS, (S'.ld = S.ld ∧ S'.fin = S.fin ∧ S'.st = S.st) → S' = { S with cur := S'.cur, la := S'.la, ld := S'.ld } ∧ S'.used = S.used := by
    rintro ⟨f, c, s, a, d⟩ ⟨h1, h2, h3⟩
    simp only at h1 h2 h3
    subst h1 h2 h3
    exact ⟨rfl, rfl⟩
  rcases row with ⟨h0, h1, h2, rfl, rfl, rfl⟩ | ⟨h0, gc, cap, gl, arr, fs, r1, r2, r3⟩
  · refine (short_raw gt gb (w.heap.size + 1) cs room hcs v3 nilV (.int .i64 S.used) S bs hbs i hi none 0 0 ⟨Nat.le_refl _, .inl rfl, by simp [PS.room, h0], (fun h => by rw [h0] at h; cases h), fun _ => ⟨rfl, rfl, rfl⟩⟩ w tr (fun h => by rw [h0] at h; cases h) hn hok (by omega) (by omega) hb).mono ?_
    rintro e w' ⟨j, rfl, h3, h4, S', fl', k1, k2, k3, k4, k5, k6, k7⟩
    have hst : S'.st = false := by rw [k2.2.2, h0]
    obtain ⟨_, rfl, _⟩ := k3.nil hst
    have ht : Touch w w' (fun k => k = gt ∨ k ∈ []) := k6.mono (fun i hi h => h.elim .inl (fun h => by omega))
    have hcur : S'.cur = [] := by
      have h5 : ∀ (l : List Nd) (T : PS), T.st = false → (l.foldl (PS.enc1 cs) T).st = false → (l.foldl (PS.enc1 cs) T).cur = [] ∨ l = [] := by
        intro l
        induction l with
        | nil => intro T _ _; exact .inr rfl
        | cons n r ih =>
          intro T hT hf
          have hmono : ∀ (l : List Nd) (T : PS), T.st = true → (l.foldl (PS.enc1 cs) T).st = true := by
            intro l
            induction l with
            | nil => intro T h; exact h
            | cons n r ih2 =>
              intro T h
              refine ih2 _ ?_
              unfold PS.enc1 PS.short PS.long PS.avail PS.next
              split
              · exact h
              · split
                · rfl
                · exact h
          have : (PS.enc1 cs T n).st = true := by
            have hnf : ¬ T.fits cs n := by
              rintro ⟨_, _, h⟩
              rw [PS.room, hT] at h
              simp at h
            unfold PS.enc1
            rw [if_neg hnf]
            unfold PS.long PS.avail
            rw [if_pos (by simp [PS.room, hT])]
            rfl
          rw [List.foldl_cons, hmono r _ this] at hf
          cases hf
      rcases h5 ((bs.take j).drop i) S h0 (k1 ▸ hst) with h6 | h6
      · rw [k1]; exact h6
      · rw [k1, h6]; exact h2
    refine ⟨j, S', rfl, h3, h4, k1, ⟨nilV, nilV, ?_, .inl ⟨hst, by rw [k2.2.1, h1], hcur, rfl, rfl, rfl⟩, hg⟩, ⟨ht, fun _ h => .inl h⟩, k7⟩
    rw [(key S' k2).2, k2.1]
    exact k4
  · have row : Row w S cs v5 v7 fp := .inr ⟨h0, gc, cap, gl, arr, fs, r1, r2, r3⟩
    subst r2
    have hgl := row.writing
    refine (short_raw gt gb gl cs room hcs v3 v5 (.int .i64 S.used) S bs hbs i hi _ _ _ ⟨hgl.2.1.len, .inr rfl, by simp [PS.room, h0], fun _ => ⟨rfl, rfl, rfl⟩, fun h => by rw [h0] at h; cases h⟩ w tr (fun _ => hgl.2.1) hn hok (fun e => hg (e ▸ hgl.1)) (fun e => hbf (e ▸ hgl.1)) hb).mono ?_
    rintro e w' ⟨j, rfl, h3, h4, S', fl', k1, k2, k3, k4, k5, k6, k7⟩
    have hst : S'.st = true := by rw [k2.2.2, h0]
    obtain ⟨_, _, rfl⟩ := k3.row hst
    have ht : Touch w w' (fun k => k = gt ∨ k ∈ fp) := k6.mono (fun i hi h => h.elim .inl (fun (h : i = gl) => .inr (by rw [h]; exact hgl.1)))
    refine ⟨j, S', rfl, h3, h4, k1, ⟨v5, chV gl S'.cur.length cs, ?_, ?_, hg⟩, ⟨ht, fun _ h => .inl h⟩, k7⟩
    rotate_left
    · have := row.grow k6 (fun k hk hne h => h.elim (fun h => hg (h ▸ hk)) hne) (k5 hst) S'.la S'.ld
      rw [← (key S' k2).1] at this
      exact this
    · rw [(key S' k2).2, k2.1]
      exact k4

theorem enc1_fin (cs : Nat) (S : PS) (n : Nd) : (PS.enc1 cs S n).fin.length ≤ S.fin.length + 1 := by
  unfold PS.enc1 PS.short PS.long PS.avail PS.next
  split
  · simp
  · split
    · simp only
      split <;> simp
    · simp
theorem foldl_fin (cs : Nat) : ∀ (l : List Nd) (S : PS), (l.foldl (PS.enc1 cs) S).fin.length ≤ S.fin.length + l.length
  | [], S => by simp
  | n :: r, S => by
    have h1 := foldl_fin cs r (PS.enc1 cs S n)
    have h2 := enc1_fin cs S n
    rw [List.foldl_cons, List.length_cons]
    omega

theorem take_split (bs : List Nd) (j i : Nat) (h : j < i) (hi : i ≤ bs.length) : bs.take i = bs.take j ++ (bs[j]'(by omega) :: (bs.take i).drop (j + 1)) := by
  have h1 : bs.take i = (bs.take i).take j ++ (bs.take i).drop j := (List.take_append_drop j (bs.take i)).symm
  have h2 : (bs.take i).take j = bs.take j := by rw [List.take_take, Nat.min_eq_left (by omega)]
  have h3 : (bs.take i).drop j = bs[j]'(by omega) :: (bs.take i).drop (j + 1) := by
    rw [List.drop_eq_getElem_cons (by rw [List.length_take]; omega), List.getElem_take]
  rw [h2, h3] at h1
  exact h1

set_option maxHeartbeats 2000000 in
theorem encode_ok (gt gb cs room : Nat) (h31 : 31 ≤ cs) (hcs : cs ≤ 65536) (en : Nat) (hen : en ≤ 100000) (S : PS) (hS : S.fin.length ≤ 100000) (bs : List Nd) (hbs : bs.length ≤ 65536) (hrm : bs.length ≤ room) (hroom : room ≤ 65536) (w : World) (fp : List Nat)
    (hm : Mem w gt cs (btV gb bs.length room) (.int .i64 (en : Int)) S fp) (hn : ∀ j (hj : j < bs.length), NodeAt w gb (j * 5) bs[j]) (hok : ∀ n ∈ bs, n.k ≤ 4 ∧ n.e ≠ -1) (hgb : gb < w.heap.size) (hb : gb ≠ gt) (hbf : gb ∉ fp) :
    Calls Try.prog 30 #[.pointer (some ⟨gt, 0, none⟩)] w fun e w' => e = .returned (.tuple #[]) ∧ ∃ fp', Mem w' gt cs (btV gb 0 room) (.int .i64 ((en : Int) + (bs.length : Int))) (bs.foldl (PS.enc1 cs) S) fp' ∧ Step w w' gt fp fp' := by
  have HM := hide hm
  have HN := hide hn
  have HOK := hide hok
  clear hm hn hok
  go_enter Try.func30, Try.ntmps30
  go_wp2_with fail
  refine (short_ok gt gb cs room hcs _ S bs hbs 0 (Nat.zero_le _) w fp HM.out HN.out HOK.out hgb hb hbf).mono ?_
  rintro e w1 ⟨j0, S0, rfl, -, hj0, hS0, hm0, hst0, hnf0⟩
  have REL : Hid (S0 = (bs.take j0).foldl (PS.enc1 cs) S ∧ Mem w1 gt cs (btV gb bs.length room) (.int .i64 (en : Int)) S0 fp ∧ Step w w1 gt fp fp ∧ ∀ hj : j0 < bs.length, ¬ S0.fits cs bs[j0]) := hide ⟨by rw [hS0, List.drop_zero], hm0, hst0, hnf0⟩
  clear hS0 hm0 hst0 hnf0
  go_wp2_with fail
  go_loopw [2] (fun vi wr => ∃ (j : Nat) (S' : PS) (fp' : List Nat), vi = .int .i64 (j : Int) ∧ j ≤ bs.length ∧ Hid (S' = (bs.take j).foldl (PS.enc1 cs) S ∧ Mem wr gt cs (btV gb bs.length room) (.int .i64 (en : Int)) S' fp' ∧ Step w wr gt fp fp' ∧ ∀ hj : j < bs.length, ¬ S'.fits cs bs[j]))
    (fun vi _ => bs.length - (intOf vi).toNat)
  case atStart => exact ⟨j0, S0, fp, rfl, hj0, REL⟩
  case round =>
    clear REL
    obtain ⟨j, S', fp', rfl, hj, hrel⟩ := hrel
    obtain ⟨v5, v7, tr, row, hg⟩ := hrel.out.2.1
    obtain ⟨c2, c3, c5, c6, c7, c8, c10, c11⟩ := tr.cells
    have hf := tr.frozen
    have HT := hide tr
    have HR := hide row
    clear tr row c5 c6 c7 c8 c10 c11
    by_cases hlt : j < bs.length
    · have hle : S'.fin.length ≤ 1000000 := by
        have := foldl_fin cs (bs.take j) S
        rw [← hrel.out.1, List.length_take] at this
        omega
      have hbf' : gb ∉ fp' := by
        intro h
        rcases hrel.out.2.2.1.fresh gb h with h | h
        · exact hbf h
        · omega
      have hgn : ¬ (fun k => k = gt ∨ k ∈ fp) gb := by
        rintro (h | h)
        · exact hb h
        · exact hbf h
      have hnode := (HN.out j hlt).touch hrel.out.2.2.1.touch hgn
      have hokj := HOK.out _ (List.getElem_mem hlt)
      have hcall := hide (long_ok gt cs h31 hcs _ _ S' hle wr fp' hrel.out.2.1 gb (j * 5) bs[j] hokj.1 hokj.2 hnode hb hbf')
      clear hnode hokj
      go_wp2_with fail
      refine hcall.out.mono ?_
      rintro e w2 ⟨rfl, fp2, hm2, hst2⟩
      have st2 := hrel.out.2.2.1.trans hst2
      have hbf2 : gb ∉ fp2 := by
        intro h
        rcases st2.fresh gb h with h | h
        · exact hbf h
        · omega
      have hgb2 : gb < w2.heap.size := Nat.lt_of_lt_of_le hgb st2.touch.size
      have hcall2 := short_ok gt gb cs room hcs _ (S'.long cs bs[j]) bs hbs (j + 1) hlt w2 fp2 hm2 (fun i hi => (HN.out i hi).touch st2.touch hgn) HOK.out hgb2 hb hbf2
      have ej : ((j + 1 : Nat) : Int) = (j : Int) + 1 := by omega
      rw [ej] at hcall2
      have HC2 := hide hcall2
      have HM2 := hide hm2
      have HS2 := hide st2
      clear hm2 hst2 st2 hcall2 ej hcall HT HR c2 c3 hf
      go_wp2_with fail
      refine HC2.out.mono ?_
      rintro e w3 ⟨j', S'', rfl, h1, h2, h3, h4, h5, h6⟩
      have REL2 : Hid (S'' = (bs.take j').foldl (PS.enc1 cs) S ∧ Mem w3 gt cs (btV gb bs.length room) (.int .i64 (en : Int)) S'' fp2 ∧ Step w w3 gt fp fp2 ∧ ∀ hj : j' < bs.length, ¬ S''.fits cs bs[j']) := hide (by
        refine ⟨?_, h4, HS2.out.trans h5, h6⟩
        rw [take_split bs j j' h1 h2, List.foldl_append, List.foldl_cons, ← hrel.out.1, h3]
        congr 1
        rw [PS.enc1, if_neg (hrel.out.2.2.2 hlt)])
      clear h3 h4 h5 h6
      go_wp2
      go_roundw
      case rel => exact ⟨j', S'', fp2, rfl, h2, REL2⟩
      case measure => simp [intOf]; omega
    · go_wp2_with fail
      go_region
      go_wp2
      go_end0
      have hjN : j = bs.length := by omega
      have eS : bs.foldl (PS.enc1 cs) S = S' := by rw [hrel.out.1, hjN, List.take_length]
      rw [eS]
      have t0 : Touch wr (((wr.setCell ⟨gt, 3, none⟩ (.int .i64 ((en : Int) + (bs.length : Int)))).setCell ⟨gt, 2, none⟩ (btV gb 0 room)).drew) (fun k => k = gt) := (((Touch.refl wr (fun k => k = gt)).set gt 3 _ (fun _ => rfl)).set gt 2 _ (fun _ => rfl)).drew 1
      exact ⟨rfl, fp', ⟨v5, v7, (HT.out.set3 _).set2 _, HR.out.touch t0 (fun k hk e => hg (e ▸ hk)), hg⟩, hrel.out.2.2.1.trans ⟨t0.mono (fun i _ h => .inl h), fun _ h => .inl h⟩⟩
end Go.Proofs.Qxb6615701a
