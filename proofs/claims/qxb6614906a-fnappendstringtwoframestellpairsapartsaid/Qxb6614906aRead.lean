/-
  readUvarintAt (14), bytesEqual (16).
-/
import Derived.Test.Qxb6614906aApp
namespace Go.Proofs.Qxb6614906a
open Go Go.RowKit
set_option linter.unusedVariables false

/-- A slice value that is not nil, and whose elements are the bytes l. -/
def Has (w : World) (v : Value) (l : List UInt8) : Prop :=
  ∃ g cap, v = .slice (some ⟨g, 0, none⟩) l.length cap ∧ l.length ≤ cap ∧ ∀ j (hj : j < l.length), w.cell? ⟨g, j, none⟩ = some (.int .u8 (l[j]).toNat)

theorem has_of_own {w : World} {B : Nat} {v : Value} {l : List UInt8} (h : w.ownsRow B 5 1 v l.length (Lib.byteCells l)) (h0 : 0 < l.length) : Has w v l := by
  obtain ⟨hl, h⟩ := h
  rcases h with ⟨_, h⟩ | ⟨g, cap, cur, rfl, hB, hb, hc, _, hs, ht⟩
  · omega
  · refine ⟨g, cap, rfl, hc, fun j hj => ?_⟩
    have hbl : Blk w g cur := hb
    rw [hbl.cell]
    have h1 : (Lib.byteCells l)[j]? = some (.int .u8 (l[j]).toNat) := by simp [Lib.byteCells, hj]
    rw [← h1, ← ht]
    simp [hj]

set_option maxHeartbeats 800000 in
set_option maxRecDepth 100000 in
/-- bytesEqual of two slices of one length. -/
theorem eq_same (g1 g2 c1 c2 : Nat) (p q : List UInt8) (n : Nat) (hp : p.length = n) (hq : q.length = n) (hn : n ≤ 8388608) (h1 : n ≤ c1) (h2 : n ≤ c2) (w : World)
    (hcp : ∀ j (hj : j < p.length), w.cell? ⟨g1, j, none⟩ = some (.int .u8 (p[j]).toNat)) (hcq : ∀ j (hj : j < q.length), w.cell? ⟨g2, j, none⟩ = some (.int .u8 (q[j]).toNat)) :
    Calls Try.prog 16 #[.slice (some ⟨g1, 0, none⟩) n c1, .slice (some ⟨g2, 0, none⟩) n c2] w fun e w' => e = .returned (.bool (decide (p = q))) ∧ ∃ m, w' = w.drewN m := by
  have HP := hide hp
  have HQ := hide hq
  have HCP := hide hcp
  have HCQ := hide hcq
  clear hp hq hcp hcq
  go_enter Try.func16, Try.ntmps16
  go_wp2
  go_loopw [5] (fun i wr => ∃ k m : Nat, k ≤ n ∧ i = .int .i64 k ∧ wr = w.drewN m ∧ Hid (p.take k = q.take k)) (fun i _ => n - (intOf i).toNat)
  case atStart => exact ⟨0, 0, Nat.zero_le _, rfl, rfl, rfl⟩
  case round =>
    obtain ⟨k, m, hk, rfl, rfl, ht⟩ := hrel
    by_cases hlt : k < n
    · have kp : k < p.length := by rw [unhide HP]; exact hlt
      have kq : k < q.length := by rw [unhide HQ]; exact hlt
      have cp : w.cell? ⟨g1, k, none⟩ = some (.int .u8 (p[k]).toNat) := unhide HCP k kp
      have cq : w.cell? ⟨g2, k, none⟩ = some (.int .u8 (q[k]).toNat) := unhide HCQ k kq
      by_cases he : p[k] = q[k]
      · have hst : Hid (p.take (k + 1) = q.take (k + 1)) := by
          show _ = _
          rw [List.take_succ_eq_append_getElem kp, List.take_succ_eq_append_getElem kq, ht.out, he]
        rw [he] at cp
        generalize q[k] = c at cp cq
        have hne : ((c.toNat : Int) != c.toNat) = false := by simp
        clear ht he kp kq
        go_wp2
        go_quiet (fail)
        go_wp2
        go_roundw
        case rel => exact ⟨k + 1, _, by omega, by go_num, rfl, hst⟩
        case measure => simp [intOf]; omega
      · have hne : (((p[k]).toNat : Int) != (q[k]).toNat) = true := by
          rw [bne_iff_ne]
          intro h
          exact he (UInt8.toNat_inj.1 (by omega))
        have hd : Hid (decide (p = q) = false) := by
          show _ = _
          rw [decide_eq_false_iff_not]
          intro h
          subst h
          exact he rfl
        generalize p[k] = c1 at cp hne
        generalize q[k] = c2 at cq hne
        clear ht he kp kq
        go_wp2
        go_quiet (fail)
        go_wp2
        go_ret
        exact ⟨by rw [hd.out]; rfl, _, World.drewN_drewN _ _ _⟩
    · have hd : Hid (decide (p = q) = true) := by
        show _ = _
        rw [decide_eq_true_iff]
        have h := ht.out
        rw [List.take_of_length_le (by rw [unhide HP]; omega), List.take_of_length_le (by rw [unhide HQ]; omega)] at h
        exact h
      clear ht
      go_wp2
      go_ret
      exact ⟨by rw [hd.out]; rfl, _, rfl⟩
end Go.Proofs.Qxb6614906a
