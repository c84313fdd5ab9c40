/-
  nextChunk (43) and writable (41), of a tree.
-/
import Derived.Test.Qxb6615701aTnext
namespace Go.Proofs.Qxb6615701a
open Go Go.RowKit
set_option linter.unusedVariables false

/-- What a step may have done: it has turned blocks of the tree alone; the tree's blocks are old ones of the tree, or new. -/
structure Step (w w' : World) (gt : Nat) (fp fp' : List Nat) : Prop where
  touch : Touch w w' (fun k => k = gt ∨ k ∈ fp)
  fresh : ∀ k ∈ fp', k ∈ fp ∨ w.heap.size ≤ k

theorem Step.refl (w : World) (gt : Nat) (fp : List Nat) : Step w w gt fp fp := ⟨Touch.refl _ _, fun _ h => .inl h⟩
theorem Step.trans {w w1 w2 : World} {gt : Nat} {fp fp1 fp2 : List Nat} (h : Step w w1 gt fp fp1) (k : Step w1 w2 gt fp1 fp2) : Step w w2 gt fp fp2 := by
  refine ⟨h.touch.trans k.touch ?_, fun i hi => ?_⟩
  · intro i hi h1
    rcases h1 with rfl | h1
    · exact .inl rfl
    · rcases h.fresh i h1 with h2 | h2
      · exact .inr h2
      · omega
  · rcases k.fresh i hi with h1 | h1
    · exact h.fresh i h1
    · exact .inr (Nat.le_trans h.touch.size h1)

theorem next_row (gt cs : Nat) (hcs : cs ≤ 65536) (v2 v3 v5 v7 v10 v11 : Value) (S : PS) (hS : S.fin.length ≤ 1000000) (w : World) (fp : List Nat) (hw : Tr w gt cs v2 v3 v5 (.int .i64 S.used) v7 v10 v11) (hr : Row w S cs v5 v7 fp) (hg : gt ∉ fp) :
    Calls Try.prog 43 #[.pointer (some ⟨gt, 0, none⟩), v7] w fun e w' => ∃ v5' fp' gl, e = .returned (slV gl cs) ∧ Tr w' gt cs v2 v3 v5' (.int .i64 S.next.used) v7 v10 v11 ∧ Row w' S.next cs v5' (slV gl cs) fp' ∧ gt ∉ fp' ∧ Step w w' gt fp fp' := by
  have hgt := hw.lt
  rcases hr with ⟨h0, h1, h2, rfl, rfl, rfl⟩ | ⟨h0, gc, cap, gl, arr, fs, rfl, rfl, h3, h4, h5, h6, h7, h8, h9, h10, rfl, h12⟩
  · have hu : S.used = 0 := by simp [PS.used, h0]
    rw [hu] at hw
    refine (next_new gt cs hcs v2 v3 _ v10 v11 w hw _).mono ?_
    rintro e w' ⟨rfl, g', cap', arr, k1, k2, k3, k4, k5, k6, k7, k8, k9⟩
    have k9' : w.heap.size < g' := by
      rcases k9 with k9 | k9
      · exact k9
      · cases k9
    refine ⟨.slice (some ⟨g', 0, none⟩) 1 cap', [g', w.heap.size], w.heap.size, rfl, ?_, .inr ⟨rfl, g', cap', w.heap.size, arr, [], ?_, rfl, k2, k3, ?_, k5, ?_, ?_, (fun p hp => by cases hp), k8, rfl, ?_⟩, ?_, ?_, ?_⟩
    rotate_left
    · simp [PS.next, h0]
    · simp [PS.next, h0]; omega
    · simp [PS.next, h0]
    · simpa [PS.next, h0] using k6
    · simp; omega
    · simp; omega
    · exact k7.mono (fun i _ h => h.elim .inl (fun h => by cases h))
    · intro k hk; simp at hk; exact .inr (by omega)
    · simpa [PS.next, PS.used, h0] using k1
  · have hu : S.used = (S.fin.length : Int) + 1 := by simp [PS.used, h0]
    rw [hu] at hw
    have hne : gc ≠ gt := fun e => hg (by simp [e])
    have hgc : gc < w.heap.size := (Array.getElem?_eq_some_iff.1 h3).1
    have hlen : fs.length = S.fin.length := by rw [← h7, List.length_map]
    refine (next_more gt cs hcs v2 v3 _ v10 v11 w S.fin.length gc cap arr hS hw h3 h4 h5 h6 hne _ _ _).mono ?_
    rintro e w' ⟨rfl, g', cap', arr', k1, k2, k3, k4, k5, k6, k7, k8, k9⟩
    have hold : arr.toList.take S.fin.length = fs.map (fun p => Value.slice (some ⟨p.1, 0, none⟩) p.2.length cs) := by
      have := congrArg (List.take S.fin.length) h8
      rw [List.take_take, Nat.min_eq_left (Nat.le_succ _)] at this
      rw [this, List.take_append_of_le_length (by rw [List.length_map]; omega), List.take_of_length_le (by rw [List.length_map]; omega)]
    have kt : Touch w w' (fun k => k = gt ∨ k = gc) := k7.mono (fun i _ h => h.imp id (fun h => Option.some.inj h))
    simp only [List.nodup_cons, List.mem_cons, not_or] at h12
    obtain ⟨⟨n1, n2⟩, n3, n4⟩ := h12
    simp only [List.mem_cons, not_or] at hg
    have far : ∀ i, i ≠ gc → i < w.heap.size → g' ≠ i := by
      intro i hi hlt e
      subst e
      rcases k9 with k9 | k9
      · omega
      · exact hi (Option.some.inj k9)
    have chlt : ∀ p ∈ fs, p.1 < w.heap.size := fun p hp => (h9 p hp).lt
    have glt := h10.lt
    refine ⟨.slice (some ⟨g', 0, none⟩) (S.fin.length + 1 + 1) cap', g' :: w.heap.size :: (fs ++ [(gl, S.cur)]).map (·.1), w.heap.size, rfl, ?_, .inr ⟨rfl, g', cap', w.heap.size, arr', fs ++ [(gl, S.cur)], ?_, rfl, k2, k3, ?_, k5, ?_, ?_, ?_, k8, rfl, ?_⟩, ?_, ?_, ?_⟩
    rotate_left
    · simp [PS.next, h0]
    · simpa [PS.next, h0] using k4
    · simp [PS.next, h0, h7]
    · simp only [PS.next, h0, if_true, List.length_append, List.length_singleton, List.map_append, List.map_cons, List.map_nil]
      rw [k6, hold]
    · intro p hp
      rw [List.mem_append] at hp
      rcases hp with hp | hp
      · refine (h9 p hp).touch kt ?_
        rintro (e | e)
        · exact hg.2.2 (e ▸ List.mem_map_of_mem (f := (·.1)) hp)
        · exact n2 (e ▸ List.mem_map_of_mem (f := (·.1)) hp)
      · rw [List.mem_singleton] at hp
        subst hp
        exact h10.touch kt (by rintro (e | e); exact hg.2.1 e.symm; exact n1 e.symm)
    · rw [List.nodup_cons, List.nodup_cons, List.map_append, List.nodup_append]
      refine ⟨?_, ?_, n4, by simp, ?_⟩
      · simp only [List.mem_cons, List.mem_append, List.mem_map, List.map_cons, List.map_nil, List.not_mem_nil, or_false, not_or]
        refine ⟨?_, ?_, ?_⟩
        · rcases k9 with k9 | k9
          · omega
          · have := Option.some.inj k9; omega
        · rintro ⟨p, hp, e⟩
          exact far p.1 (fun e2 => n2 (e2 ▸ List.mem_map_of_mem (f := (·.1)) hp)) (chlt p hp) e.symm
        · exact far gl (fun e => n1 e.symm) glt
      · simp only [List.mem_append, List.mem_map, List.map_cons, List.map_nil, List.mem_singleton, not_or]
        refine ⟨?_, by omega⟩
        rintro ⟨p, hp, e⟩
        have := chlt p hp
        omega
      · intro a ha b hb
        simp only [List.map_cons, List.map_nil, List.mem_singleton] at hb
        subst hb
        exact fun e => n3 (e ▸ ha)
    · simp only [List.mem_cons, List.mem_append, List.mem_map, List.map_append, List.map_cons, List.map_nil, List.not_mem_nil, or_false, not_or]
      refine ⟨fun e => far gt hg.1 hgt e.symm, by omega, ?_, hg.2.1⟩
      rintro ⟨p, hp, e⟩
      exact hg.2.2 (e ▸ List.mem_map_of_mem (f := (·.1)) hp)
    · exact kt.mono (fun i _ h => h.imp id (fun h => by simp [h]))
    · intro k hk
      simp only [List.mem_cons, List.mem_append, List.map_append, List.map_cons, List.map_nil, List.not_mem_nil, or_false] at hk ⊢
      rcases hk with rfl | rfl | hk | rfl
      · rcases k9 with k9 | k9
        · exact .inr (by omega)
        · exact .inl (.inl (Option.some.inj k9))
      · exact .inr (Nat.le_refl _)
      · exact .inl (.inr (.inr hk))
      · exact .inl (.inr (.inl rfl))
    · simpa [PS.next, PS.used, h0] using k1
end Go.Proofs.Qxb6615701a
