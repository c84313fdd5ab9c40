/-
  utf8.RuneCount (35); zzIn (38), zzValidLen (31), zzRuneCount (26) come in another text.
-/
import Derived.Test.Qxb6615701aBrk
namespace Go.Proofs.Qxb6615701a
open Go Go.RowKit
set_option linter.unusedVariables false

theorem ret_i64 {a b : Int} (h : a = b) : Ending.returned (.int .i64 a) = .returned (.int .i64 b) := by rw [h]

set_option maxHeartbeats 400000 in
set_option maxRecDepth 100000 in
theorem count_some (g o n cap : Nat) (l : List UInt8) (hl : l.length = n) (hn : n ≤ 1048576) (hcap : n ≤ cap) (w : World) (hc : ∀ j (hj : j < l.length), w.cell? ⟨g, o + j, none⟩ = some (.int .u8 (l[j]).toNat)) :
    Calls Try.prog 35 #[.slice (some ⟨g, o, none⟩) n cap] w fun e w' => e = .returned (.int .i64 (Plain.rc l 0)) ∧ Below w.heap.size w w' := by
  have HL := hide hl
  have HC := hide hc
  clear hl hc
  go_enter Try.func35, Try.ntmps35
  go_wp2
  go_loop [4] (fun i => ∃ k : Nat, k ≤ n ∧ i = .int .i64 k ∧ Hid (k + Plain.rc l k = Plain.rc l 0)) (fun i => n - (intOf i).toNat)
  case atStart => exact ⟨0, Nat.zero_le _, rfl, Nat.zero_add _⟩
  case round =>
    obtain ⟨k, hk, rfl, hh⟩ := hrel
    by_cases hlt : k < n
    · have kl : k < l.length := by rw [unhide HL]; exact hlt
      have hcell := unhide HC k kl
      by_cases h128 : (l[k]).toNat < 128
      · have hnx : Hid (k + 1 + Plain.rc l (k + 1) = Plain.rc l 0) := by
          show _ = _
          rw [← hh.out, Plain.rc_ascii l k kl (by simpa [List.getD, kl] using h128)]
          omega
        clear hh
        generalize l[k] = c at hcell h128
        go_wp2
        go_round
        case rel => exact ⟨k + 1, by omega, by go_num, hnx⟩
        case measure => simp [intOf]; omega
      · have hcv : (convert 22 9 (.slice (some ⟨g, o + k, none⟩) (n - k) (cap - k))).run Try.prog w = .ok (.string ⟨(l.drop k).toArray⟩) w := by
          have hd : (l.drop k).length = n - k := by rw [List.length_drop, unhide HL]
          have := run_convert_bytes_back (P := Try.prog) w 22 9 5 ⟨g, o + k, none⟩ (cap - k) (l.drop k) Try.underlying22 Try.underlying5 Try.underlying9 (fun j hj => by
            have := unhide HC (k + j) (by have := unhide HL; omega)
            rw [Addr.add_lit, Nat.add_assoc, this]
            simp)
          rw [hd] at this
          exact this
        have hfin : Hid ((k : Int) + (Plain.rc (⟨(l.drop k).toArray⟩ : ByteArray).data.toList 0 : Nat) = (Plain.rc l 0 : Nat)) := by
          show _ = _
          rw [← hh.out]
          show (k : Int) + (Plain.rc (l.drop k) 0 : Nat) = _
          rw [Plain.rc_drop]
          omega
        have hsz : (⟨(l.drop k).toArray⟩ : ByteArray).size ≤ 1048576 := by
          show (l.drop k).toArray.size ≤ _
          rw [List.size_toArray, List.length_drop, unhide HL]
          omega
        generalize l[k] = c at hcell h128
        generalize (⟨(l.drop k).toArray⟩ : ByteArray) = t at hcv hfin hsz
        have hr0 := (Plain.rc_bounds t.data.toList).1
        have hr1 : t.data.toList.length = t.size := Array.length_toList
        rw [hr1] at hr0
        clear hh hr1
        go_wp2_with (go_at_call 40; refine (count_str t _ hsz).mono ?_; rintro e w' ⟨rfl, hb⟩)
        go_ret
        exact ⟨ret_i64 hfin.out, hb⟩
    · have he : Hid (k = Plain.rc l 0) := by
        show _ = _
        rw [← hh.out, Plain.rc_end l k (by rw [unhide HL]; exact hlt), Nat.add_zero]
      clear hh
      go_wp2
      go_ret
      exact ⟨ret_i64 (by rw [he.out]), Below.refl _ _⟩

set_option maxHeartbeats 400000 in
theorem count_zero (ao : Option Addr) (cap : Nat) (w : World) : Calls Try.prog 35 #[.slice ao 0 cap] w fun e w' => e = .returned (.int .i64 0) ∧ Below w.heap.size w w' := by
  go_enter Try.func35, Try.ntmps35
  go_wp2
  go_loop [4] (fun i => i = .int .i64 0) (fun _ => 0)
  case atStart => rfl
  case round =>
    subst hrel
    go_wp2
    go_ret
    exact ⟨rfl, Below.refl _ _⟩
end Go.Proofs.Qxb6615701a
