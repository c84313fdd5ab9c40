/-
  The walk of FnNoteKeyForYAMLHangsOnTheKeysBytesAlone (function 3).
-/
import Derived.Test.Qxb6615701aL3pre
namespace Go.Proofs.Qxb6615701a
open Go Go.RowKit
set_option linter.unusedVariables false

set_option maxHeartbeats 6400000 in
set_option maxRecDepth 100000 in
theorem l3_nil (a0 a2 : Option Addr) (a d : List UInt8) (c0 c2 : Nat) (hn : a.length + d.length ≤ 1048576) (w : World) (hA : Sl w a0 a) (hD : Sl w a2 d)
      :
    Calls Try.prog 3 #[.slice a0 a.length c0, .slice none 0 0, .slice a2 d.length c2, .int .i64 0, .int .i64 0] w fun e w' => e = .returned (.bool true) ∧ Below w.heap.size w w' := by
  have hq := run_neq_slice_nil_any (P := Try.prog) w 22 5 none 0 0 0 0 Try.underlying22
  have hmk2 := run_make_row' (P := Try.prog) 22 5 (.int .u8 0) 1 Try.underlying22 info5 rfl .i64 .i64 (a.length + d.length) (by omega) (by omega)
  rw [show ((a.length + d.length : Nat) : Int) = (a.length : Int) + (d.length : Int) by omega] at hmk2
  have HA := hide hA
  have HD := hide hD
  clear hA hD
  go_enter Try.func3, Try.ntmps3
  go_wp2_with (go_at_call 7; go_in)
  have HA1 := HA
  have HD1 := HD
  go_loopw [13, 14] (fun vw vi wr => ∃ k1 : Nat, k1 ≤ a.length ∧ vi = .int .i64 k1 ∧ vw = .int .i64 k1 ∧ Hid (Fill wr w.heap.size (a.length + d.length) (a ++ [] ++ d) k1) ∧ Hid (Below w.heap.size w wr)) (fun _ vi _ => a.length - (intOf vi).toNat)
  case atStart => exact ⟨0, Nat.zero_le _, rfl, rfl, fill_new _ _ _, mk_below _ _⟩
  case round =>
    obtain ⟨k1, hk1, rfl, rfl, hF, hBl⟩ := hrel
    by_cases hlt1 : k1 < a.length
    · obtain ⟨ba, oa, hao, hba, hca⟩ := unhide HA1 (by omega)
      subst hao
      have hcell := (hBl.out.cell (p := ⟨ba, oa + k1, none⟩) hba).trans (hca k1 hlt1)
      obtain ⟨old, hold⟩ := hF.out.cell (k := k1) (by omega)
      have hfr := hF.out.frozen k1
      have hst := hF.out.step (show k1 < a.length + d.length by omega)
      rw [whole_a a [] d k1 hlt1] at hst
      have HST := hide hst
      have HBL := hide (hBl.out.setCell (Nat.le_refl _) (p := ⟨w.heap.size, k1, none⟩) (.int .u8 (a[k1]).toNat))
      clear hst hF hBl hca
      generalize (a[k1]).toNat = z at hcell HST HBL
      go_wp2
      go_roundw
      case rel => exact ⟨k1 + 1, by omega, by go_num, by go_num, HST, HBL⟩
      case measure => simp [intOf]; omega
    · obtain rfl : k1 = a.length := by omega
      clear hlt1 hk1
      go_wp2
      go_loopw [13, 15] (fun vw vi wr => vi = .int .i64 0 ∧ vw = .int .i64 a.length ∧ Hid (Fill wr w.heap.size (a.length + d.length) (a ++ [] ++ d) a.length) ∧ Hid (Below w.heap.size w wr)) (fun _ _ _ => 0)
      case atStart => exact ⟨rfl, rfl, hF, hBl⟩
      case round =>
        obtain ⟨rfl, rfl, hF, hBl⟩ := hrel
        go_wp2
        go_loopw [13, 16] (fun vw vi wr => ∃ k3 : Nat, k3 ≤ d.length ∧ vi = .int .i64 k3 ∧ vw = .int .i64 ((a.length + k3 : Nat) : Int) ∧ Hid (Fill wr w.heap.size (a.length + d.length) (a ++ [] ++ d) (a.length + k3)) ∧ Hid (Below w.heap.size w wr)) (fun _ vi _ => d.length - (intOf vi).toNat)
        case atStart => exact ⟨0, Nat.zero_le _, rfl, by go_num, hF, hBl⟩
        case round =>
          obtain ⟨k3, hk3, rfl, rfl, hF, hBl⟩ := hrel
          by_cases hlt3 : k3 < d.length
          · obtain ⟨bd, od, hao, hbd, hcd⟩ := unhide HD1 (by omega)
            subst hao
            have hcell := (hBl.out.cell (p := ⟨bd, od + k3, none⟩) hbd).trans (hcd k3 hlt3)
            obtain ⟨old, hold⟩ := hF.out.cell (k := a.length + k3) (by omega)
            have hfr := hF.out.frozen (a.length + k3)
            have hst := hF.out.step (show a.length + k3 < a.length + d.length by omega)
            have hwc := whole_c a [] d k3 hlt3
            rw [List.length_nil, Nat.add_zero] at hwc
            rw [hwc] at hst
            have HST := hide hst
            have HBL := hide (hBl.out.setCell (Nat.le_refl _) (p := ⟨w.heap.size, a.length + k3, none⟩) (.int .u8 (d[k3]).toNat))
            clear hst hF hBl hcd
            generalize (d[k3]).toNat = z at hcell HST HBL
            go_wp2
            go_roundw
            case rel => exact ⟨k3 + 1, by omega, by go_num, by go_num, HST, HBL⟩
            case measure => simp [intOf]; omega
          · obtain rfl : k3 = d.length := by omega
            clear hlt3 hk3
            have hfull : Bytes wr w.heap.size (a ++ [] ++ d) := by
              refine Fill.done ?_
              rw [(show ((a ++ [] ++ d) : List UInt8).length = a.length + d.length by simp; try omega)]
              exact hF.out
            have HFU := hide hfull
            have HBL := hide hBl.out
            clear hfull hF hBl
            have ho : noteOf (span [] 0 0) = none := rfl
            have HO := hide ho
            clear ho
            go_wp2_with fail
            refine (yn_zero _ _ _).mono ?_
            rintro e W5 ⟨rfl, hW5⟩
            subst hW5
            go_wp2_with fail
            refine (key9 _ [] 0 0 (Nat.le_refl _) (Nat.le_refl _) (by simp) wr (.inl ⟨rfl, rfl⟩)).mono ?_
            rintro e W6 ⟨rfl, hN1, hB6⟩
            rw [unhide HO] at hN1
            have HN1 := hide hN1
            have HFU6 := hide ((unhide HFU).below hB6 (unhide HFU).lt)
            have HB6 := hide hB6
            clear hN1 hB6
            go_wp2_with fail
            have hsp : noteOf (span (a ++ [] ++ d) a.length a.length) = none := by
              have := span_whole a [] d 0 0 (Nat.le_refl _)
              rw [Nat.zero_add] at this
              rw [this]; rfl
            have hpl : ((a ++ [] ++ d) : List UInt8).length = a.length + d.length := by simp; try omega
            refine (key9 (.slice (some ⟨w.heap.size, 0, none⟩) (a.length + d.length) (a.length + d.length)) (a ++ [] ++ d) (a.length) (a.length) (Nat.le_refl _) (by omega) (by omega) W6 (.inr ⟨_, by rw [hpl], unhide HFU6⟩)).mono ?_
            rintro e W7 ⟨rfl, hN2, hB7⟩
            rw [hsp] at hN2
            have HN2 := hide hN2
            have HN1' := hide ((unhide HN1).below hB7)
            have HBE := hide (((unhide HBL).trans ((unhide HB6).mono (unhide HBL).size)).trans (hB7.mono (Nat.le_trans (unhide HBL).size (unhide HB6).size)))
            clear hN2 hB7 hsp hpl
            have q1 := later_ne
            have q2 := longK_ne
            have q3 := later_emp
            have q4 := longK_emp
            go_wp2_with fail
            refine (cnt_none _ _ _ (unhide HN1')).mono ?_
            rintro e W8 ⟨rfl, hW8⟩
            subst hW8
            go_wp2_with fail
            refine (cnt_none _ _ _ (unhide HN2)).mono ?_
            rintro e W9 ⟨rfl, hW9⟩
            subst hW9
            go_wp2_with fail
            go_ret
            exact ⟨rfl, unhide HBE⟩

end Go.Proofs.Qxb6615701a
