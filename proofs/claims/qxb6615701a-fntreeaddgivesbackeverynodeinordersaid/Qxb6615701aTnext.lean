/-
  (*tree).nextChunk (43).
-/
import Derived.Test.Qxb6615701aTmm
import Derived.Deep.RegionLawGrows
namespace Go.Proofs.Qxb6615701a
open Go Go.RowKit
set_option linter.unusedVariables false

theorem info22 : (Try.prog.info? 22).map (fun i => (i.zero, i.size, i.bytes)) = some (some (.slice none 0 0), 1, 24) := by kernel_rfl

theorem newS (W : World) (x : Value) : ∀ j u, [x][j]? = some u → (W.alloc (.cells #[x] 22)).cell? ((⟨W.heap.size, 0, none⟩ : Addr).add j) = some u := by
  intro j u hj
  match j, hj with
  | 0, hj => simp at hj; subst hj; simp [Addr.add]
theorem oneS (a : Option Addr) (n c : Nat) : ∀ u ∈ [Value.slice a n c], u.oneCell' = true := by intro u hu; simp at hu; subst hu; rfl

/-- The new chunk, and the row of one that is to be appended. -/
abbrev W4 (w1 : World) (cs : Nat) : World := ((w1.alloc (.cells (madeCells #[.int .u8 0] cs) 5)).alloc (.cells #[.slice (some ⟨w1.heap.size, 0, none⟩) 0 cs] 22)).drew
abbrev slV (g cs : Nat) : Value := .slice (some ⟨g, 0, none⟩) 0 cs

theorem blk_set {w : World} {gc : Nat} {arr : Array Value} {t : TypeId} (hb : w.heap[gc]? = some (.cells arr t (0, 0))) (n : Nat) (v : Value) : (w.setCell ⟨gc, n, none⟩ v).heap[gc]? = some (.cells (arr.setIfInBounds n v) t (0, 0)) := by
  simp only [World.setCell, Array.getElem?_modify, hb]
  rfl
theorem take_set (arr : Array Value) (n : Nat) (v : Value) (h : n < arr.size) : (arr.setIfInBounds n v).toList.take (n + 1) = arr.toList.take n ++ [v] := by
  rw [Array.toList_setIfInBounds, List.take_succ_eq_append_getElem (by simp; omega)]
  congr 1
  · rw [List.take_set_of_le (Nat.le_refl _)]
  · simp
theorem size_set (w : World) (g n : Nat) (v : Value) : (w.setCell ⟨g, n, none⟩ v).heap.size = w.heap.size := by simp [World.setCell]
theorem news4 (w1 : World) (cs : Nat) : ∀ j u, [slV w1.heap.size cs][j]? = some u → (W4 w1 cs).cell? ((⟨w1.heap.size + 1, 0, none⟩ : Addr).add j) = some u := by
  intro j u hj
  match j, hj with
  | 0, hj =>
    simp at hj; subst hj
    simp [Addr.add]

theorem touch4 (w1 : World) (cs : Nat) (F : Nat → Prop) : Touch w1 (W4 w1 cs) F := (((Touch.refl w1 F).alloc _).alloc _).drew 1
theorem ch4 (w1 : World) (cs : Nat) : Ch (W4 w1 cs) w1.heap.size cs [] := (((ch_new w1 cs).alloc _).touch ((Touch.refl _ (fun _ => False)).drew 1) (fun h => h))
theorem size4 (w1 : World) (cs : Nat) : (W4 w1 cs).heap.size = w1.heap.size + 2 := by
  show ((w1.alloc (.cells (madeCells #[.int .u8 0] cs) 5)).alloc (.cells #[.slice (some ⟨w1.heap.size, 0, none⟩) 0 cs] 22)).heap.size = _
  simp

/-- What stands behind nextChunk. -/
def NextPost (w1 wf : World) (gt cs : Nat) (v2 v3 v7 v10 v11 : Value) (n : Nat) (olds : List Value) (gc : Option Nat) : Prop :=
  ∃ g' cap' arr, Tr wf gt cs v2 v3 (.slice (some ⟨g', 0, none⟩) (n + 1) cap') (.int .i64 ((n : Int) + 1)) v7 v10 v11 ∧ wf.heap[g']? = some (.cells arr 22 (0, 0)) ∧ arr.size = cap' ∧ n + 1 ≤ cap' ∧ cap' ≤ maxLen ∧
    arr.toList.take (n + 1) = olds ++ [slV w1.heap.size cs] ∧ Touch w1 wf (fun k => k = gt ∨ some k = gc) ∧ Ch wf w1.heap.size cs [] ∧ (w1.heap.size < g' ∨ some g' = gc)

/-- The row of chunks, one longer: a new row, or (with room) the old one. -/
structure Grew (w1 w' : World) (cs n : Nat) (olds : List Value) (gc : Option Nat) (g' cap' : Nat) (arr : Array Value) : Prop where
  far : w1.heap.size < g' ∨ some g' = gc
  blk : w'.heap[g']? = some (.cells arr 22 (0, 0))
  size : arr.size = cap'
  le : n + 1 ≤ cap'
  max : cap' ≤ maxLen
  take : arr.toList.take (n + 1) = olds ++ [slV w1.heap.size cs]
  touch : Touch w1 w' (fun k => some k = gc)
  ch : Ch w' w1.heap.size cs []

theorem grew {w1 w' : World} {cs n : Nat} {olds : List Value} {v' : Value} (gc : Option Nat) (hown : w'.ownsRow (W4 w1 cs).heap.size 22 1 v' (n + 1) (olds ++ [slV w1.heap.size cs])) (hg : (W4 w1 cs).grownBy w' none) :
    ∃ g' cap' arr, v' = .slice (some ⟨g', 0, none⟩) (n + 1) cap' ∧ Grew w1 w' cs n olds gc g' cap' arr := by
  obtain ⟨_, ⟨_, h⟩ | ⟨g', cap', arr, h1, h2, h3, h4, h5, h6, h7⟩⟩ := hown
  · omega
  · rw [size4] at h2
    refine ⟨g', cap', arr, h1, .inl (by omega), h3, by omega, h4, h5, by simpa using h7, (touch4 w1 cs _).grown hg, ?_⟩
    exact (ch4 w1 cs).touch ((Touch.refl _ (fun _ => False)).grown hg) (fun h => h)

theorem roomed {w1 : World} {cs n gc cap : Nat} {arr : Array Value} (hb : w1.heap[gc]? = some (.cells arr 22 (0, 0))) (hs : arr.size = cap) (hr : n + 1 ≤ cap) (hm : cap ≤ maxLen) :
    Grew w1 ((W4 w1 cs).setCells gc (0 + n * 1) [slV w1.heap.size cs]) cs n (arr.toList.take n) (some gc) gc cap (arr.setIfInBounds n (slV w1.heap.size cs)) := by
  have hlt : gc < w1.heap.size := (Array.getElem?_eq_some_iff.1 hb).1
  have e : (W4 w1 cs).setCells gc (0 + n * 1) [slV w1.heap.size cs] = (W4 w1 cs).setCell ⟨gc, n, none⟩ (slV w1.heap.size cs) := by
    rw [Nat.mul_one, Nat.zero_add]; rfl
  rw [e]
  have hb4 : (W4 w1 cs).heap[gc]? = some (.cells arr 22 (0, 0)) := (touch4 w1 cs (fun _ => False)).blk hb (fun h => h)
  have t0 : Touch (W4 w1 cs) ((W4 w1 cs).setCell ⟨gc, n, none⟩ (slV w1.heap.size cs)) (fun k => some k = some gc) := (Touch.refl _ _).set gc n _ (fun _ => rfl)
  refine ⟨.inr rfl, ?_, by simpa using hs, hr, hm, ?_, (touch4 w1 cs _).trans t0 (fun _ _ h => h), (ch4 w1 cs).touch t0 (fun h => by simp at h; omega)⟩
  · simp only [World.setCell, Array.getElem?_modify, hb4]
    rfl
  · rw [Array.toList_setIfInBounds, List.take_succ_eq_append_getElem (by simp; omega)]
    congr 1
    · rw [List.take_set_of_le (Nat.le_refl _)]
    · simp

theorem spare4 {w1 : World} {cs n gc cap : Nat} {arr : Array Value} (hb : w1.heap[gc]? = some (.cells arr 22 (0, 0))) (hs : arr.size = cap) (hr : n + 1 ≤ cap) (v : Value) :
    ∀ j, j < [v].length → ((W4 w1 cs).cell? ⟨gc, 0 + n * 1 + j, none⟩).isSome = true ∧ (W4 w1 cs).frozen? ⟨gc, 0 + n * 1 + j, none⟩ = false := by
  have hb4 : (W4 w1 cs).heap[gc]? = some (.cells arr 22 (0, 0)) := (touch4 w1 cs (fun _ => False)).blk hb (fun h => h)
  intro j hj
  rw [List.length_singleton] at hj
  obtain rfl : j = 0 := by omega
  rw [Nat.mul_one, Nat.zero_add, Nat.add_zero]
  generalize W4 w1 cs = W at hb4
  refine ⟨?_, ?_⟩
  · simp only [World.cell?, hb4]
    rw [Array.getElem?_eq_getElem (by omega)]
    rfl
  · simp [World.frozen?, hb4]

theorem Grew.cell {w1 w' : World} {cs n : Nat} {olds : List Value} {gc : Option Nat} {g' cap' : Nat} {arr : Array Value} (h : Grew w1 w' cs n olds gc g' cap' arr) (hl : olds.length = n) : w'.cell? ⟨g', n, none⟩ = some (slV w1.heap.size cs) := by
  have h1 : arr[n]? = some (slV w1.heap.size cs) := by
    have := congrArg (fun l : List Value => l[n]?) h.take
    simp only [List.getElem?_take, if_pos (Nat.lt_succ_self n), Array.getElem?_toList] at this
    rw [this, List.getElem?_append_right (by omega), hl]; simp
  have hb := h.blk
  simp [World.cell?, hb, h1]

theorem Grew.ne {w1 w' : World} {cs n : Nat} {olds : List Value} {gc : Option Nat} {g' cap' : Nat} {arr : Array Value} (h : Grew w1 w' cs n olds gc g' cap' arr) {gt : Nat} (hgt : gt < w1.heap.size) (hne : ¬ some gt = gc) : ¬ gt = g' ∧ ¬ g' = gt := by
  rcases h.far with h1 | h1
  · omega
  · exact ⟨fun e => hne (e ▸ h1), fun e => hne (e ▸ h1)⟩

theorem Grew.post {w1 w' : World} {cs n : Nat} {olds : List Value} {gc : Option Nat} {g' cap' : Nat} {arr : Array Value} (h : Grew w1 w' cs n olds gc g' cap' arr) {gt : Nat} {v2 v3 v5 v6 v7 v10 v11 : Value} (hw : Tr w1 gt cs v2 v3 v5 v6 v7 v10 v11) (hne : ¬ some gt = gc) (d : Nat) :
    NextPost w1 (((w'.setCell ⟨gt, 5, none⟩ (.slice (some ⟨g', 0, none⟩) (n + 1) cap')).setCell ⟨gt, 6, none⟩ (.int .i64 ((n : Int) + 1))).drewN d) gt cs v2 v3 v7 v10 v11 n olds gc := by
  have hgt := hw.lt
  have f1 := h.ne hgt hne
  have t0 : Touch w' (((w'.setCell ⟨gt, 5, none⟩ (.slice (some ⟨g', 0, none⟩) (n + 1) cap')).setCell ⟨gt, 6, none⟩ (.int .i64 ((n : Int) + 1))).drewN d) (· = gt) :=
    (((Touch.refl w' (fun x => x = gt)).set gt _ _ (fun _ => rfl)).set gt _ _ (fun _ => rfl)).drew d
  refine ⟨g', cap', arr, ?_, t0.blk h.blk f1.2, h.size, h.le, h.max, h.take, ?_, h.ch.touch t0 (by omega), h.far⟩
  · exact ((hw.touch h.touch hne).set5 _).set6 _
  · exact (h.touch.mono (fun _ _ h => .inr h)).trans t0 (fun i _ e => .inl e)

theorem NextPost.of {w w1 wf : World} {gt cs : Nat} {v2 v3 v7 v10 v11 : Value} {n : Nat} {olds : List Value} {gc : Option Nat} (h : NextPost w1 wf gt cs v2 v3 v7 v10 v11 n olds gc) (hs : w1.heap.size = w.heap.size) (ht : Touch w w1 (fun k => k = gt ∨ some k = gc)) : NextPost w wf gt cs v2 v3 v7 v10 v11 n olds gc := by
  obtain ⟨g', cap', arr, h1, h2, h3, h4, h5, h6, h7, h8, h9⟩ := h
  rw [hs] at h6 h8 h9
  exact ⟨g', cap', arr, h1, h2, h3, h4, h5, h6, ht.trans h7 (fun _ _ h => h), h8, h9⟩

set_option maxHeartbeats 1000000 in
theorem next_new (gt cs : Nat) (hcs : cs ≤ 65536) (v2 v3 v7 v10 v11 : Value) (w : World) (hw : Tr w gt cs v2 v3 nilV (.int .i64 0) v7 v10 v11) (full : Value) :
    Calls Try.prog 43 #[.pointer (some ⟨gt, 0, none⟩), full] w fun e w' => e = .returned (slV w.heap.size cs) ∧ NextPost w w' gt cs v2 v3 v7 v10 v11 0 [] none := by
  obtain ⟨i0, hi, hz0, hz1, hz2⟩ := info_parts info22
  have hmk := run_make_room (P := Try.prog) 22 5 (.int .u8 0) 1 Try.underlying22 info5 rfl .i64 .i64 cs (by omega) (by omega)
  have hgt := hw.lt
  obtain ⟨c2, c3, c5, c6, c7, c8, c10, c11⟩ := hw.cells
  have hf := hw.frozen
  go_enter Try.func43, Try.ntmps43
  go_wp2_with fail
  go_quiet (fail)
  go_wp2_with fail
  have hw2 : Hid (Tr (w.drewN nq) gt cs v2 v3 nilV (.int .i64 0) v7 v10 v11) := hide hw
  have hsz : Hid ((w.drewN nq).heap.size = w.heap.size) := hide rfl
  have htt : Hid (Touch w (w.drewN nq) (fun k => k = gt ∨ some k = none)) := hide ((Touch.refl _ _).drew _)
  clear c2 c3 c5 c6 c7 c8 c10 c11 hf hw hgt
  generalize w.drewN nq = w1 at hw2 hsz htt ⊢
  obtain ⟨c2, c3, c5, c6, c7, c8, c10, c11⟩ := (unhide hw2).cells
  have hf := (unhide hw2).frozen
  have hgt := (unhide hw2).lt
  go_region_law (refine step_append_grows rfl (.tmp 35) (.tmp 41) 69 rfl 22 i0 nilV 1 24 Try.underlying69 hi hz0 hz1 hz2 rfl (by decide) none 0 0 [] (by simp [Act.eval]) (fun _ => ⟨rfl,rfl⟩) rfl (fun b h => by cases h) ⟨w1.heap.size + 1, 0, none⟩ 1 1 [slV w1.heap.size cs] (by simp [Act.eval]) rfl (news4 w1 cs) (oneS _ _ _) (by omega) (by unfold maxLen; omega) (by omega) ?_; intro v' w' hown hgrow; obtain ⟨g', cap', arr, rfl, hG⟩ := grew (n := 0) (olds := []) none hown hgrow; have HG := hide hG; have d2 := (hw2.out.touch hG.touch (fun h => by cases h)).cells; have d3 := (hw2.out.touch hG.touch (fun h => by cases h)).frozen; have d4 := hG.cell rfl; obtain ⟨d5, d6⟩ := hG.ne hgt (fun h => by cases h); have d7 := hG.le; have d8 := hG.max; obtain ⟨e2, e3, e5, e6, e7, e8, e10, e11⟩ := d2; clear hown hgrow hG)
  all_goals go_wp2_with fail
  all_goals go_quiet (fail)
  all_goals go_wp2
  all_goals go_ret
  all_goals exact ⟨by rw [← hsz.out]; rfl, (HG.out.post hw2.out (fun h => by cases h) _).of hsz.out htt.out⟩

set_option maxHeartbeats 4000000 in
theorem next_more (gt cs : Nat) (hcs : cs ≤ 65536) (v2 v3 v7 v10 v11 : Value) (w : World) (n gc cap : Nat) (arr : Array Value) (hn : n ≤ 1000000) (hw : Tr w gt cs v2 v3 (.slice (some ⟨gc, 0, none⟩) (n + 1) cap) (.int .i64 ((n : Int) + 1)) v7 v10 v11)
    (hb : w.heap[gc]? = some (.cells arr 22 (0, 0))) (hs : arr.size = cap) (hle : n + 1 ≤ cap) (hmx : cap ≤ maxLen) (hne : gc ≠ gt) (fa : Option Addr) (fl fc : Nat) :
    Calls Try.prog 43 #[.pointer (some ⟨gt, 0, none⟩), .slice fa fl fc] w fun e w' => e = .returned (slV w.heap.size cs) ∧ NextPost w w' gt cs v2 v3 v7 v10 v11 (n + 1) (arr.toList.take n ++ [.slice fa fl fc]) (some gc) := by
  obtain ⟨i0, hi, hz0, hz1, hz2⟩ := info_parts info22
  have hmk := run_make_room (P := Try.prog) 22 5 (.int .u8 0) 1 Try.underlying22 info5 rfl .i64 .i64 cs (by omega) (by omega)
  have hgt := hw.lt
  obtain ⟨c2, c3, c5, c6, c7, c8, c10, c11⟩ := hw.cells
  have hf := hw.frozen
  have hgf : ∀ j, w.frozen? ⟨gc, j, none⟩ = false := by intro j; simp [World.frozen?, hb]
  obtain ⟨old, hold⟩ : ∃ old, w.cell? ⟨gc, n, none⟩ = some old := by
    refine ⟨arr[n], ?_⟩
    simp only [World.cell?, hb]
    rw [Array.getElem?_eq_getElem (by omega)]
    rfl
  have hne' : ¬ gt = gc := fun e => hne e.symm
  have HB := hide hb
  have HW := hide hw
  have HS := hide hs
  have HM := hide hmx
  clear hb hw hs hmx
  go_enter Try.func43, Try.ntmps43
  go_wp2_with fail
  go_region
  go_wp2_with fail
  go_quiet (fail)
  go_wp2_with fail
  have hw2 : Hid (Tr ((w.setCell ⟨gc, n, none⟩ (.slice fa fl fc)).drew.drewN nq) gt cs v2 v3 (.slice (some ⟨gc, 0, none⟩) (n + 1) cap) (.int .i64 ((n : Int) + 1)) v7 v10 v11) := hide (HW.out.other gc n _ hne)
  have hsz : Hid (((w.setCell ⟨gc, n, none⟩ (.slice fa fl fc)).drew.drewN nq).heap.size = w.heap.size) := hide (size_set w gc n _)
  have htt : Hid (Touch w ((w.setCell ⟨gc, n, none⟩ (.slice fa fl fc)).drew.drewN nq) (fun k => k = gt ∨ some k = some gc)) := hide ((((Touch.refl _ _).set gc n _ (fun _ => .inr rfl)).drew 1).drew nq)
  have hb2 : Hid (((w.setCell ⟨gc, n, none⟩ (.slice fa fl fc)).drew.drewN nq).heap[gc]? = some (.cells (arr.setIfInBounds n (.slice fa fl fc)) 22 (0, 0))) := hide (blk_set HB.out n _)
  have hs2 : Hid ((arr.setIfInBounds n (.slice fa fl fc)).size = cap) := hide (by simpa using HS.out)
  have holds : Hid ((arr.setIfInBounds n (.slice fa fl fc)).toList.take (n + 1) = arr.toList.take n ++ [.slice fa fl fc]) := hide (take_set arr n _ (by rw [HS.out]; exact hle))
  clear c2 c3 c5 c6 c7 c8 c10 c11 hf HW hgt hold hgf HB HS
  generalize (w.setCell ⟨gc, n, none⟩ (.slice fa fl fc)).drew.drewN nq = w1 at hw2 hsz htt hb2 ⊢
  generalize arr.setIfInBounds n (.slice fa fl fc) = arr2 at hb2 hs2 holds
  obtain ⟨c2, c3, c5, c6, c7, c8, c10, c11⟩ := (unhide hw2).cells
  have hf := (unhide hw2).frozen
  have hgt := (unhide hw2).lt
  have hnl : Hid ((arr.toList.take n ++ [Value.slice fa fl fc]).length = n + 1) := hide (by
    have := congrArg List.length holds.out
    rw [← this, List.length_take, Array.length_toList, hs2.out]; omega)
  have hoc : Hid (∀ b : Addr, some (⟨gc, 0, none⟩ : Addr) = some b → ∀ j u, (arr.toList.take n ++ [Value.slice fa fl fc])[j]? = some u → (W4 w1 cs).cell? (b.add j) = some u) := hide (by
    intro b hb j u hj
    obtain rfl := Option.some.inj hb
    rw [Addr.add_lit, Nat.zero_add]
    have hb4 : (W4 w1 cs).heap[gc]? = some (.cells arr2 22 (0, 0)) := (touch4 w1 cs (fun _ => False)).blk hb2.out (fun h => h)
    generalize W4 w1 cs = W at hb4
    rw [← holds.out, List.getElem?_take] at hj
    split at hj
    · rw [Array.getElem?_toList] at hj
      simp [World.cell?, hb4, hj]
    · cases hj)
  have hng : ¬ some gt = some gc := fun e => hne' (Option.some.inj e)
  by_cases hroom : n + 1 + 1 ≤ cap
  · go_region_law (refine step_append_room rfl (.tmp 35) (.tmp 41) 69 rfl 22 i0 1 Try.underlying69 hi hz1 gc 0 (n + 1) cap (by simp [Act.eval]) ⟨w1.heap.size + 1, 0, none⟩ 1 1 [slV w1.heap.size cs] (by simp [Act.eval]) rfl (news4 w1 cs) (oneS _ _ _) hroom (spare4 hb2.out hs2.out hroom _) ?_; have hG := roomed (cs := cs) hb2.out hs2.out hroom HM.out; rw [holds.out] at hG; generalize (W4 w1 cs).setCells gc (0 + (n + 1) * 1) [slV w1.heap.size cs] = w' at hG ⊢; have HG := hide hG; have d2 := (hw2.out.touch hG.touch hng).cells; have d3 := (hw2.out.touch hG.touch hng).frozen; have d4 := hG.cell hnl.out; obtain ⟨e2, e3, e5, e6, e7, e8, e10, e11⟩ := d2; clear hG)
    all_goals go_wp2_with fail
    all_goals go_quiet (fail)
    all_goals go_wp2
    all_goals go_ret
    all_goals exact ⟨by rw [← hsz.out]; rfl, (HG.out.post hw2.out hng _).of hsz.out htt.out⟩
  · go_region_law (refine step_append_grows rfl (.tmp 35) (.tmp 41) 69 rfl 22 i0 nilV 1 24 Try.underlying69 hi hz0 hz1 hz2 rfl (by decide) (some ⟨gc, 0, none⟩) (n + 1) cap (arr.toList.take n ++ [.slice fa fl fc]) (by simp [Act.eval]) (fun h => by cases h) (by rw [Nat.mul_one]; exact hnl.out) hoc.out ⟨w1.heap.size + 1, 0, none⟩ 1 1 [slV w1.heap.size cs] (by simp [Act.eval]) rfl (news4 w1 cs) (oneS _ _ _) (by omega) (by unfold maxLen; omega) (by omega) ?_; intro v' w' hown hgrow; obtain ⟨g', cap', arr', rfl, hG⟩ := grew (some gc) hown hgrow; have HG := hide hG; have d2 := (hw2.out.touch hG.touch hng).cells; have d3 := (hw2.out.touch hG.touch hng).frozen; have d4 := hG.cell hnl.out; obtain ⟨d5, d6⟩ := hG.ne hgt hng; have d7 := hG.le; have d8 := hG.max; obtain ⟨e2, e3, e5, e6, e7, e8, e10, e11⟩ := d2; clear hown hgrow hG)
    all_goals go_wp2_with fail
    all_goals go_quiet (fail)
    all_goals go_wp2
    all_goals go_ret
    all_goals exact ⟨by rw [← hsz.out]; rfl, (HG.out.post hw2.out hng _).of hsz.out htt.out⟩
end Go.Proofs.Qxb6615701a
