/-
  ZZTreeCounts (18), ZZTreeChunk (19), ZZTreeWriting (20), zzEqualBytes (25).
-/
import Derived.Test.Qxb6615701aTtree
namespace Go.Proofs.Qxb6615701a
open Go Go.RowKit
set_option linter.unusedVariables false

theorem PS.used_form (S : PS) : ∃ u : Nat, S.used = (u : Int) ∧ (S.st = false → u = 0) ∧ (S.st = true → u = S.fin.length + 1) := by
  unfold PS.used
  cases h : S.st
  · exact ⟨0, by simp, fun _ => rfl, fun h => by cases h⟩
  · exact ⟨S.fin.length + 1, by simp, (fun h => by cases h), fun _ => rfl⟩

set_option maxHeartbeats 400000 in
theorem counts_ok (gt gb cs room n : Nat) (en : Int) (S : PS) (w : World) (fp : List Nat) (hm : Mem w gt cs (btV gb n room) (.int .i64 en) S fp) :
    Calls Try.prog 18 #[.pointer (some ⟨gt, 0, none⟩)] w fun e w' => e = .returned (.tuple #[.int .i64 en, .int .i64 (n : Int), .int .i64 S.used]) ∧ ∃ nq, w' = w.drewN nq := by
  obtain ⟨v5, v7, tr, row, hg⟩ := hm
  obtain ⟨c2, c3, c5, c6, c7, c8, c10, c11⟩ := tr.cells
  clear tr row c5 c7 c8 c10 c11
  generalize S.used = u at *
  go_enter Try.func18, Try.ntmps18
  go_wp2_with fail
  go_quiet (fail)
  go_wp2
  go_ret3
  exact ⟨rfl, _, rfl⟩

set_option maxHeartbeats 400000 in
theorem writing_ok (gt cs : Nat) (v2 v3 : Value) (S : PS) (hst : S.st = true) (w : World) (fp : List Nat) (hm : Mem w gt cs v2 v3 S fp) :
    Calls Try.prog 20 #[.pointer (some ⟨gt, 0, none⟩)] w fun e w' => ∃ g, e = .returned (chV g S.cur.length cs) ∧ Ch w g cs S.cur ∧ w = w' := by
  obtain ⟨v5, v7, tr, row, hg⟩ := hm
  rcases row with ⟨h0, _⟩ | ⟨h0, gc, cap, gl, arr, fs, h1, rfl, h3, h4, h5, h6, h7, h8, h9, h10, h11, h12⟩
  · rw [hst] at h0; cases h0
  obtain ⟨c2, c3, c5, c6, c7, c8, c10, c11⟩ := tr.cells
  have H10 := hide h10
  clear tr c2 c3 c5 c6 c8 c10 c11 h1 h3 h4 h5 h6 h7 h8 h9 h10 h11 h12
  generalize hcu : S.cur = cu at *
  clear hcu
  go_enter Try.func20, Try.ntmps20
  go_wp2
  go_ret
  exact ⟨gl, rfl, H10.out, rfl⟩

set_option maxHeartbeats 400000 in
theorem chunk_ok (gt cs : Nat) (v2 v3 : Value) (S : PS) (hS : S.fin.length ≤ 1000000) (i : Nat) (hi : i < S.fin.length) (w : World) (fp : List Nat) (hm : Mem w gt cs v2 v3 S fp) :
    Calls Try.prog 19 #[.pointer (some ⟨gt, 0, none⟩), .int .i64 (i : Int)] w fun e w' => ∃ g, e = .returned (chV g (S.fin[i]).length cs) ∧ Ch w g cs S.fin[i] ∧ w = w' := by
  obtain ⟨v5, v7, tr, row, hg⟩ := hm
  rcases row with ⟨h0, h1, _⟩ | ⟨h0, gc, cap, gl, arr, fs, rfl, h2, h3, h4, h5, h6, h7, h8, h9, h10, h11, h12⟩
  · rw [h1] at hi; cases hi
  obtain ⟨c2, c3, c5, c6, c7, c8, c10, c11⟩ := tr.cells
  have hlen : fs.length = S.fin.length := by rw [← h7, List.length_map]
  have hif : i < fs.length := by omega
  have hfi : (fs[i]).2 = S.fin[i] := by simp [← h7]
  have hcell : w.cell? ⟨gc, i, none⟩ = some (chV (fs[i]).1 (S.fin[i]).length cs) := by
    have h13 : arr[i]? = some (chV (fs[i]).1 (S.fin[i]).length cs) := by
      have := congrArg (fun l : List Value => l[i]?) h8
      simp only [List.getElem?_take, if_pos (Nat.lt_succ_of_lt hi), Array.getElem?_toList] at this
      rw [this, List.getElem?_append_left (by rw [List.length_map]; exact hif), List.getElem?_map, List.getElem?_eq_getElem hif]
      simp [hfi]
    simp [World.cell?, h3, h13]
  have hch := h9 fs[i] (List.getElem_mem hif)
  rw [hfi] at hch
  have HCH := hide hch
  clear hch tr c2 c3 c6 c7 c8 c10 c11 h2 h3 h4 h6 h7 h8 h9 h10 h11 h12 hfi
  generalize S.fin[i] = cu at *
  generalize (fs[i]).1 = g at *
  go_enter Try.func19, Try.ntmps19
  go_wp2
  go_ret
  exact ⟨g, rfl, HCH.out, rfl⟩

theorem Ch.cellAt {w : World} {g cs : Nat} {l : List UInt8} (h : Ch w g cs l) (j : Nat) (hj : j < l.length) : w.cell? ⟨g, j, none⟩ = Option.some (.int .u8 (l[j]).toNat) := by
  have := h.cells j (.int .u8 (l[j]).toNat) (by simp [Lib.byteCells, hj])
  rwa [Nat.zero_add] at this

set_option maxHeartbeats 400000 in
theorem equal_ok (g1 g2 cs : Nat) (hcs : cs ≤ 65536) (l : List UInt8) (m : Nat) (hm : m = l.length) (w : World) (h1 : Ch w g1 cs l) (h2 : Ch w g2 cs l) :
    Calls Try.prog 25 #[chV g1 m cs, chV g2 m cs] w fun e w' => e = .returned (.bool true) ∧ Touch w w' (fun _ => False) := by
  have hlen := h1.len
  have H1 := hide h1
  have H2 := hide h2
  have HM := hide hm
  have hmc : m ≤ cs := by omega
  clear h1 h2 hm hlen
  go_enter Try.func25, Try.ntmps25
  go_wp2_with fail
  go_loopw [5] (fun vi wr => ∃ j : Nat, vi = .int .i64 (j : Int) ∧ j ≤ m ∧ Hid (Touch w wr (fun _ => False))) (fun vi _ => m - (intOf vi).toNat)
  case atStart => exact ⟨0, rfl, Nat.zero_le _, hide (Touch.refl _ _)⟩
  case round =>
    obtain ⟨j, rfl, hj, ht⟩ := hrel
    by_cases hlt : j < m
    · have hjl : j < l.length := by rw [← HM.out]; exact hlt
      have a1 := (H1.out.touch ht.out (fun h => h)).cellAt j hjl
      have a2 := (H2.out.touch ht.out (fun h => h)).cellAt j hjl
      generalize l[j] = c at a1 a2
      go_wp2_with fail
      go_quiet (fail)
      go_wp2
      go_roundw
      case rel => exact ⟨j + 1, by go_num, by omega, hide (ht.out.drew _)⟩
      case measure => simp [intOf]; omega
    · go_wp2
      go_ret
      exact ⟨rfl, ht.out⟩
end Go.Proofs.Qxb6615701a
