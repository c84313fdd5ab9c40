/-
  add (28), ZZTreeAdd (17).
-/
import Derived.Test.Qxb6615701aTenc
namespace Go.Proofs.Qxb6615701a
open Go Go.RowKit
set_option linter.unusedVariables false

theorem info77 : (Try.prog.info? 77).map (fun i => (i.zero, i.size, i.bytes)) = some (some (.agg #[.int .u8 0, .bool false, .int .i64 0, .int .i64 0, .int .i64 0]), 5, 32) := by kernel_rfl

/-- A tree in memory, its batch with it. -/
structure TM (w : World) (gt gb cs room en : Nat) (bs : List Nd) (S : PS) (fp : List Nat) : Prop where
  mem : Mem w gt cs (btV gb bs.length room) (.int .i64 (en : Int)) S fp
  blk : ∃ arr, w.heap[gb]? = some (.cells arr 77 (0, 0)) ∧ arr.size = room * 5
  node : ∀ j (hj : j < bs.length), NodeAt w gb (j * 5) bs[j]
  le : bs.length ≤ room
  ne : gb ≠ gt
  nf : gb ∉ fp
  ok : ∀ n ∈ bs, n.k ≤ 4 ∧ n.e ≠ -1

def Nd.cells (n : Nd) : List Value := [.int .u8 (n.k : Int), .bool n.dec, .int .i64 n.a, .int .i64 n.s, .int .i64 n.e]
def Nd.val (n : Nd) : Value := .agg #[.int .u8 (n.k : Int), .bool n.dec, .int .i64 n.a, .int .i64 n.s, .int .i64 n.e]

theorem TM.touch {w w' : World} {F : Nat → Prop} {gt gb cs room en : Nat} {bs : List Nd} {S : PS} {fp : List Nat} (h : TM w gt gb cs room en bs S fp) (ht : Touch w w' F) (h1 : ¬ F gt) (h2 : ¬ F gb) (h3 : ∀ k ∈ fp, ¬ F k) : TM w' gt gb cs room en bs S fp := by
  obtain ⟨arr, b1, b2⟩ := h.blk
  exact ⟨h.mem.touch ht h1 h3, ⟨arr, ht.blk b1 h2, b2⟩, fun j hj => (h.node j hj).touch ht h2, h.le, h.ne, h.nf, h.ok⟩
theorem TM.gb_lt {w : World} {gt gb cs room en : Nat} {bs : List Nd} {S : PS} {fp : List Nat} (h : TM w gt gb cs room en bs S fp) : gb < w.heap.size := by
  obtain ⟨arr, b1, b2⟩ := h.blk
  exact (Array.getElem?_eq_some_iff.1 b1).1

theorem setCells_blk {arr : Array Value} {gb : Nat} {t : TypeId} : ∀ (vs : List Value) (o : Nat) (W : World) (arr : Array Value), W.heap[gb]? = some (.cells arr t (0, 0)) → ∃ arr', (W.setCells gb o vs).heap[gb]? = some (.cells arr' t (0, 0)) ∧ arr'.size = arr.size
  | [], o, W, arr, h => ⟨arr, h, rfl⟩
  | v :: r, o, W, arr, h => by
    obtain ⟨arr', h1, h2⟩ := setCells_blk (arr := arr) r (o + 1) (W.setCell ⟨gb, o, none⟩ v) _ (blk_set h o v)
    exact ⟨arr', h1, by rw [h2]; simp⟩
theorem Touch.setCells {a : World} {F : Nat → Prop} {gb : Nat} (hF : F gb) : ∀ (vs : List Value) (o : Nat) (W : World), Touch a W F → Touch a (W.setCells gb o vs) F
  | [], _, _, h => h
  | v :: r, o, W, h => Touch.setCells hF r (o + 1) _ (h.set gb o v (fun _ => hF))

/-- The batch, one node longer. -/
theorem set_node {W : World} {gb N room : Nat} {arr : Array Value} (hb : W.heap[gb]? = some (.cells arr 77 (0, 0))) (hs : arr.size = room * 5) (hlt : N < room) (n : Nd) :
    (∃ arr', (W.setCells gb (0 + N * 5) n.cells).heap[gb]? = some (.cells arr' 77 (0, 0)) ∧ arr'.size = room * 5) ∧ NodeAt (W.setCells gb (0 + N * 5) n.cells) gb (N * 5) n ∧ ∀ j m, j < N → NodeAt W gb (j * 5) m → NodeAt (W.setCells gb (0 + N * 5) n.cells) gb (j * 5) m := by
  rw [Nat.zero_add]
  have hin : ∀ j, j < n.cells.length → (W.cell? ⟨gb, N * 5 + j, none⟩).isSome = true := by
    intro j hj
    have hj' : j < 5 := hj
    simp only [World.cell?, hb]
    rw [Array.getElem?_eq_getElem (by omega)]
    rfl
  have h1 := World.cell?_setCells_in gb n.cells (N * 5) W hin
  refine ⟨?_, ⟨h1 0 (by show 0 < 5; omega), h1 1 (by show 1 < 5; omega), h1 2 (by show 2 < 5; omega), h1 3 (by show 3 < 5; omega), h1 4 (by show 4 < 5; omega)⟩, ?_⟩
  · obtain ⟨arr', a1, a2⟩ := setCells_blk (arr := arr) (t := 77) n.cells (N * 5) W arr hb
    exact ⟨arr', a1, by omega⟩
  · rintro j m hj ⟨m0, m1, m2, m3, m4⟩
    have ho : ∀ i, i < 5 → (W.setCells gb (N * 5) n.cells).cell? ⟨gb, j * 5 + i, none⟩ = W.cell? ⟨gb, j * 5 + i, none⟩ := by
      intro i hi
      refine World.cell?_setCells_out gb _ _ _ _ (fun _ _ => .inl ?_)
      simp only
      omega
    exact ⟨by rw [← m0]; exact ho 0 (by decide), by rw [← m1]; exact ho 1 (by decide), by rw [← m2]; exact ho 2 (by decide), by rw [← m3]; exact ho 3 (by decide), by rw [← m4]; exact ho 4 (by decide)⟩

theorem spareN {W : World} {gb N room : Nat} {arr : Array Value} (hb : W.heap[gb]? = some (.cells arr 77 (0, 0))) (hs : arr.size = room * 5) (hlt : N < room) (n : Nd) :
    ∀ j, j < n.cells.length → (W.cell? ⟨gb, 0 + N * 5 + j, none⟩).isSome = true ∧ W.frozen? ⟨gb, 0 + N * 5 + j, none⟩ = false := by
  intro j hj
  have hj' : j < 5 := hj
  rw [Nat.zero_add]
  refine ⟨?_, by simp [World.frozen?, hb]⟩
  simp only [World.cell?, hb]
  rw [Array.getElem?_eq_getElem (by omega)]
  rfl

theorem nodeAt_blk {W : World} {g : Nat} {n : Nd} {t : TypeId} (hb : W.heap[g]? = some (.cells #[.int .u8 (n.k : Int), .bool n.dec, .int .i64 n.a, .int .i64 n.s, .int .i64 n.e] t (0, 0))) : NodeAt W g 0 n := by
  refine ⟨?_, ?_, ?_, ?_, ?_⟩ <;> simp [World.cell?, hb]

abbrev WN (w2 : World) (n : Nd) : World := (w2.alloc (.cells #[.int .u8 (n.k : Int), .bool n.dec, .int .i64 n.a, .int .i64 n.s, .int .i64 n.e] 77)).drew
theorem newsN (w2 : World) (n : Nd) : ∀ j u, n.cells[j]? = some u → (WN w2 n).cell? ((⟨w2.heap.size, 0, none⟩ : Addr).add j) = some u := by
  intro j u hj
  have h : (WN w2 n).cell? ((⟨w2.heap.size, 0, none⟩ : Addr).add j) = n.cells[j]? := by
    rw [Addr.add_lit, Nat.zero_add]
    have hb : (WN w2 n).heap[w2.heap.size]? = some (.cells #[.int .u8 (n.k : Int), .bool n.dec, .int .i64 n.a, .int .i64 n.s, .int .i64 n.e] 77 (0, 0)) := heap_alloc_new w2 _
    simp only [World.cell?, hb]
    simp [Nd.cells]
  rw [h, hj]
theorem oneN (n : Nd) : ∀ u ∈ n.cells, u.oneCell' = true := by
  intro u hu
  simp only [Nd.cells, List.mem_cons, List.not_mem_nil, or_false] at hu
  rcases hu with rfl | rfl | rfl | rfl | rfl <;> rfl

/-- What may have been done to a tree with its batch. -/
structure StepB (w w' : World) (gt gb : Nat) (fp fp' : List Nat) : Prop where
  touch : Touch w w' (fun k => k = gt ∨ k = gb ∨ k ∈ fp)
  fresh : ∀ k ∈ fp', k ∈ fp ∨ w.heap.size ≤ k

theorem Step.b {w w' : World} {gt : Nat} {fp fp' : List Nat} (h : Step w w' gt fp fp') (gb : Nat) : StepB w w' gt gb fp fp' :=
  ⟨h.touch.mono (fun i _ h => h.elim .inl (fun h => .inr (.inr h))), h.fresh⟩
theorem StepB.refl (w : World) (gt gb : Nat) (fp : List Nat) : StepB w w gt gb fp fp := ⟨Touch.refl _ _, fun _ h => .inl h⟩
theorem StepB.trans {w w1 w2 : World} {gt gb : Nat} {fp fp1 fp2 : List Nat} (h : StepB w w1 gt gb fp fp1) (k : StepB w1 w2 gt gb fp1 fp2) : StepB w w2 gt gb fp fp2 := by
  refine ⟨h.touch.trans k.touch ?_, fun i hi => ?_⟩
  · intro i hi h1
    rcases h1 with rfl | rfl | h1
    · exact .inl rfl
    · exact .inr (.inl rfl)
    · rcases h.fresh i h1 with h2 | h2
      · exact .inr (.inr h2)
      · omega
  · rcases k.fresh i hi with h1 | h1
    · exact h.fresh i h1
    · exact .inr (Nat.le_trans h.touch.size h1)

/-- Behind the append and the store. -/
theorem added {w2 : World} {gt gb cs room en : Nat} {bs : List Nd} {S : PS} {fp : List Nat} (h : TM w2 gt gb cs room en bs S fp) (hlt : bs.length < room) (n : Nd) (hn : n.k ≤ 4 ∧ n.e ≠ -1) :
    TM (((WN w2 n).setCells gb (0 + bs.length * 5) n.cells).setCell ⟨gt, 2, none⟩ (btV gb (bs.length + 1) room)) gt gb cs room en (bs ++ [n]) S fp ∧
    StepB w2 (((WN w2 n).setCells gb (0 + bs.length * 5) n.cells).setCell ⟨gt, 2, none⟩ (btV gb (bs.length + 1) room)) gt gb fp fp := by
  have tN : ∀ F : Nat → Prop, Touch w2 (WN w2 n) F := fun F => ((Touch.refl w2 F).alloc _).drew 1
  have hN := h.touch (tN (fun _ => False)) (fun h => h) (fun h => h) (fun _ _ h => h)
  obtain ⟨arr, b1, b2⟩ := hN.blk
  have hset := set_node b1 b2 hlt n
  generalize hW : (WN w2 n).setCells gb (0 + bs.length * 5) n.cells = W at hset ⊢
  have tW : ∀ F : Nat → Prop, F gb → Touch (WN w2 n) W F := fun F hF => by rw [← hW]; exact Touch.setCells hF _ _ _ (Touch.refl _ _)
  have tS : Touch W (W.setCell ⟨gt, 2, none⟩ (btV gb (bs.length + 1) room)) (fun k => k = gt) := (Touch.refl _ _).set gt 2 _ (fun _ => rfl)
  have hgt : ¬ (fun k => k = gb) gt := fun e => h.ne e.symm
  obtain ⟨v5, v7, tr, row, hg⟩ := hN.mem
  have tr' := (tr.touch (tW (fun k => k = gb) rfl) hgt).set2 (btV gb (bs.length + 1) room)
  have row' := (row.touch (tW (fun k => k = gb) rfl) (fun k hk e => h.nf (e ▸ hk))).touch tS (fun k hk e => hg (e ▸ hk))
  refine ⟨⟨⟨v5, v7, by rw [List.length_append]; exact tr', row', hg⟩, ?_, ?_, by rw [List.length_append, List.length_singleton]; omega, h.ne, h.nf, ?_⟩, ?_, fun _ h => .inl h⟩
  · obtain ⟨arr', a1, a2⟩ := hset.1
    exact ⟨arr', tS.blk a1 h.ne, a2⟩
  · intro j hj
    refine NodeAt.touch ?_ tS h.ne
    rw [List.length_append, List.length_singleton] at hj
    by_cases hjl : j < bs.length
    · rw [List.getElem_append_left hjl]
      exact hset.2.2 j _ hjl (hN.node j hjl)
    · obtain rfl : j = bs.length := by omega
      rw [List.getElem_append_right (Nat.le_refl _)]
      simpa using hset.2.1
  · intro m hm
    rw [List.mem_append, List.mem_singleton] at hm
    rcases hm with hm | rfl
    · exact h.ok m hm
    · exact hn
  · exact (((tN _).trans (tW (fun k => k = gt ∨ k = gb ∨ k ∈ fp) (.inr (.inl rfl))) (fun _ _ h => h))).trans tS (fun i _ e => .inl e)

set_option maxHeartbeats 2000000 in
set_option maxRecDepth 100000 in
theorem add_room (gt gb cs room : Nat) (hroom : room ≤ 65536) (n : Nd) (hnok : n.k ≤ 4 ∧ n.e ≠ -1) (w : World) (en : Nat) (bs : List Nd) (S : PS) (fp : List Nat) (h : TM w gt gb cs room en bs S fp) (hlt : bs.length < room) :
    Calls Try.prog 28 #[.pointer (some ⟨gt, 0, none⟩), n.val] w fun e w' => e = .returned (.tuple #[]) ∧ TM w' gt gb cs room en (bs ++ [n]) S fp ∧ StepB w w' gt gb fp fp := by
  obtain ⟨i0, hi, hz0, hz1, hz2⟩ := info_parts info77
  have hmemlt := h.mem.lt
  have hgblt := h.gb_lt
  obtain ⟨v5, v7, tr, row, hg⟩ := h.mem
  obtain ⟨c2, c3, c5, c6, c7, c8, c10, c11⟩ := tr.cells
  have hf := tr.frozen
  have H := hide h
  have hgt := tr.lt
  have hne := h.ne
  have hle : bs.length ≤ 65536 := by omega
  have hne2 : ((bs.length : Int) == (room : Int)) = false := by simp; omega
  have hne' : ¬ gt = gb := fun e => hne e.symm
  have HOK := hide hnok
  clear tr h row c3 c5 c6 c7 c8 c10 c11 hmemlt hnok
  unfold Nd.val
  go_enter Try.func28, Try.ntmps28
  go_wp2_with fail
  go_quiet (fail)
  go_wp2_with fail
  have tB : Touch w ((w.alloc (.cells #[.int .u8 (n.k : Int), .bool n.dec, .int .i64 n.a, .int .i64 n.s, .int .i64 n.e] 77)).drewN nq) (fun _ => False) := ((Touch.refl w _).alloc _).drew nq
  have HB : Hid (NodeAt ((w.alloc (.cells #[.int .u8 (n.k : Int), .bool n.dec, .int .i64 n.a, .int .i64 n.s, .int .i64 n.e] 77)).drewN nq) w.heap.size 0 n) := hide (nodeAt_blk (heap_alloc_new w _))
  have H2 := hide (H.out.touch tB (fun h => h) (fun h => h) (fun _ _ h => h))
  have TB := hide tB
  clear tB c2 hf
  generalize (w.alloc (.cells #[.int .u8 (n.k : Int), .bool n.dec, .int .i64 n.a, .int .i64 n.s, .int .i64 n.e] 77)).drewN nq = w2 at H2 HB TB ⊢
  obtain ⟨v5', v7', tr, row, hg'⟩ := H2.out.mem
  obtain ⟨c2, c3, c5, c6, c7, c8, c10, c11⟩ := tr.cells
  have hf := tr.frozen
  obtain ⟨arr, b1, b2⟩ := H2.out.blk
  obtain ⟨d0, d1, d2, d3, d4⟩ := HB.out
  have hgt2 := tr.lt
  have B1 := hide b1
  have B2 := hide b2
  have TR := hide tr
  clear tr row c3 c5 c6 c7 c8 c10 c11 b1 b2
  have tN : Touch w2 (WN w2 n) (fun k => k = gb) := ((Touch.refl w2 _).alloc _).drew 1
  have hbN : (WN w2 n).heap[gb]? = some (.cells arr 77 (0, 0)) := (((Touch.refl w2 (fun _ => False)).alloc _).drew 1).blk B1.out (fun h => h)
  have hsp := hide (spareN hbN B2.out hlt n)
  have hA := hide (added H2.out hlt n HOK.out)
  have hTR := TR.out.touch (Touch.setCells (F := fun k => k = gb) rfl n.cells (0 + bs.length * 5) (WN w2 n) tN) hne'
  have HTR := hide hTR
  clear hbN tN hTR
  go_region_law (refine step_append_room rfl (.tmp 23) (.tmp 25) 67 rfl 77 i0 5 Try.underlying67 hi hz1 gb 0 bs.length room (by simp [Act.eval]) ⟨w2.heap.size, 0, none⟩ 1 1 n.cells (by simp [Act.eval]) rfl (newsN w2 n) (oneN n) hlt hsp.out ?_; generalize (WN w2 n).setCells gb (0 + bs.length * 5) n.cells = w' at hA HTR ⊢; have hf2 := HTR.out.frozen; have hc2 := HTR.out.cells.1)
  all_goals go_wp2
  all_goals go_end0
  all_goals exact ⟨rfl, hA.out.1, StepB.trans ⟨TB.out.mono (fun _ _ h => h.elim), fun _ h => .inl h⟩ hA.out.2⟩

set_option maxHeartbeats 2000000 in
set_option maxRecDepth 100000 in
theorem add_full (gt gb cs room : Nat) (h31 : 31 ≤ cs) (hcs : cs ≤ 65536) (hr1 : 1 ≤ room) (hroom : room ≤ 65536) (n : Nd) (hnok : n.k ≤ 4 ∧ n.e ≠ -1) (w : World) (en : Nat) (hen : en ≤ 100000) (bs : List Nd) (S : PS) (hS : S.fin.length ≤ 100000) (fp : List Nat) (h : TM w gt gb cs room en bs S fp) (hlt : bs.length = room) :
    Calls Try.prog 28 #[.pointer (some ⟨gt, 0, none⟩), n.val] w fun e w' => e = .returned (.tuple #[]) ∧ ∃ fp', TM w' gt gb cs room (en + bs.length) [n] (bs.foldl (PS.enc1 cs) S) fp' ∧ StepB w w' gt gb fp fp' := by
  obtain ⟨i0, hi, hz0, hz1, hz2⟩ := info_parts info77
  have hmemlt := hide h.mem.lt
  have hgblt := h.gb_lt
  obtain ⟨v5, v7, tr, row, hg⟩ := h.mem
  obtain ⟨c2, c3, c5, c6, c7, c8, c10, c11⟩ := tr.cells
  have hf := tr.frozen
  have H := hide h
  have hgt := tr.lt
  have hne := h.ne
  have hle : bs.length ≤ 65536 := by omega
  have hne2 : ((bs.length : Int) == (room : Int)) = true := by simp; omega
  have hne' : ¬ gt = gb := fun e => hne e.symm
  have HOK := hide hnok
  have HLT := hide hlt
  clear tr h row c3 c5 c6 c7 c8 c10 c11 hnok hlt
  unfold Nd.val
  go_enter Try.func28, Try.ntmps28
  go_wp2_with fail
  go_quiet (fail)
  go_wp2_with fail
  have tB : Touch w ((w.alloc (.cells #[.int .u8 (n.k : Int), .bool n.dec, .int .i64 n.a, .int .i64 n.s, .int .i64 n.e] 77)).drewN nq) (fun _ => False) := ((Touch.refl w _).alloc _).drew nq
  have HB : Hid (NodeAt ((w.alloc (.cells #[.int .u8 (n.k : Int), .bool n.dec, .int .i64 n.a, .int .i64 n.s, .int .i64 n.e] 77)).drewN nq) w.heap.size 0 n) := hide (nodeAt_blk (heap_alloc_new w _))
  have H2 := hide (H.out.touch tB (fun h => h) (fun h => h) (fun _ _ h => h))
  have TB := hide tB
  clear tB c2 hf
  generalize (w.alloc (.cells #[.int .u8 (n.k : Int), .bool n.dec, .int .i64 n.a, .int .i64 n.s, .int .i64 n.e] 77)).drewN nq = w2 at H2 HB TB ⊢
  refine (encode_ok gt gb cs room h31 hcs en hen S hS bs hle H2.out.le hroom w2 fp H2.out.mem H2.out.node H2.out.ok H2.out.gb_lt hne H2.out.nf).mono ?_
  rintro e w3 ⟨rfl, fp3, m3, s3⟩
  have hgx : ¬ (fun k => k = gt ∨ k ∈ fp) w.heap.size := by
    rintro (h | h)
    · omega
    · have := hmemlt.out.2 _ h; omega
  have HB3 := hide (HB.out.touch s3.touch hgx)
  have hgbF : ¬ (fun k => k = gt ∨ k ∈ fp) gb := by
    rintro (h | h)
    · exact hne h
    · exact H2.out.nf h
  have H3 : Hid (TM w3 gt gb cs room (en + bs.length) [] (bs.foldl (PS.enc1 cs) S) fp3) := hide (by
    obtain ⟨arr, b1, b2⟩ := H2.out.blk
    refine ⟨?_, ⟨arr, s3.touch.blk b1 hgbF, b2⟩, (fun j hj => by cases hj), Nat.zero_le _, hne, ?_, (fun n h => by cases h)⟩
    · rw [Int.natCast_add]
      exact m3
    · intro h
      rcases s3.fresh gb h with h | h
      · exact H2.out.nf h
      · have := H2.out.gb_lt; omega)
  have S3 : Hid (StepB w w3 gt gb fp fp3) := hide (StepB.trans ⟨TB.out.mono (fun _ _ h => h.elim), fun _ h => .inl h⟩ (s3.b gb))
  clear m3 s3 HB H2 TB H hmemlt
  go_wp2_with fail
  obtain ⟨v5', v7', tr, row, hg'⟩ := H3.out.mem
  obtain ⟨c2, c3, c5, c6, c7, c8, c10, c11⟩ := tr.cells
  have hf := tr.frozen
  obtain ⟨arr, b1, b2⟩ := H3.out.blk
  obtain ⟨d0, d1, d2, d3, d4⟩ := HB3.out
  have hgt2 := tr.lt
  have B1 := hide b1
  have B2 := hide b2
  have TR := hide tr
  clear tr row c3 c5 c6 c7 c8 c10 c11 b1 b2
  simp only [List.length_nil] at c2
  have tN : Touch w3 (WN w3 n) (fun k => k = gb) := ((Touch.refl w3 _).alloc _).drew 1
  have hbN : (WN w3 n).heap[gb]? = some (.cells arr 77 (0, 0)) := (((Touch.refl w3 (fun _ => False)).alloc _).drew 1).blk B1.out (fun h => h)
  have hsp := hide (spareN (N := 0) hbN B2.out hr1 n)
  have hA := hide (added H3.out hr1 n HOK.out)
  simp only [List.length_nil, List.nil_append] at hA
  have hTR := TR.out.touch (Touch.setCells (F := fun k => k = gb) rfl n.cells (0 + 0 * 5) (WN w3 n) tN) hne'
  have HTR := hide hTR
  clear hbN tN hTR
  go_region_law (refine step_append_room rfl (.tmp 23) (.tmp 25) 67 rfl 77 i0 5 Try.underlying67 hi hz1 gb 0 0 room (by simp [Act.eval]) ⟨w3.heap.size, 0, none⟩ 1 1 n.cells (by simp [Act.eval]) rfl (newsN w3 n) (oneN n) hr1 hsp.out ?_; generalize (WN w3 n).setCells gb (0 + 0 * 5) n.cells = w' at hA HTR ⊢; have hf2 := HTR.out.frozen; have hc2 := HTR.out.cells.1)
  all_goals go_wp2
  all_goals go_end0
  all_goals exact ⟨rfl, fp3, hA.out.1, S3.out.trans hA.out.2⟩
end Go.Proofs.Qxb6615701a
