/-
  The walk of FnNoteKeyForYAMLHangsOnTheKeysBytesAlone (function 3).
-/
import Derived.Test.Qxb6615701aL3pre
namespace Go.Proofs.Qxb6615701a
open Go Go.RowKit
set_option linter.unusedVariables false

set_option maxHeartbeats 6400000 in
set_option maxRecDepth 100000 in
theorem l3_K (a0 a2 : Option Addr) (a b d : List UInt8) (c0 c2 : Nat) (x : Addr) (cap k c : Nat) (hcap : b.length ≤ cap) (hkc : k ≤ c) (hc : c ≤ b.length) (hn : a.length + b.length + d.length ≤ 1048576) (w : World) (hA : Sl w a0 a) (hD : Sl w a2 d) (hsrc : Src w x b)
    (ho : noteOf (span b k c) = (some longK)) (hpos : k < c) :
    Calls Try.prog 3 #[.slice a0 a.length c0, .slice (some x) b.length cap, .slice a2 d.length c2, .int .i64 k, .int .i64 c] w fun e w' => e = .returned (.bool true) ∧ Below w.heap.size w w' := by
  have hmk := run_make_row' (P := Try.prog) 22 5 (.int .u8 0) 1 Try.underlying22 info5 rfl .i64 .i64 b.length (by omega) (by omega)
  have hq := run_neq_slice_nil_any (P := Try.prog) w 22 5 (some x) b.length cap 0 0 Try.underlying22
  have HS := hide hsrc
  have HO := hide ho
  clear hsrc ho
  have hmk2 := run_make_row' (P := Try.prog) 22 5 (.int .u8 0) 1 Try.underlying22 info5 rfl .i64 .i64 (a.length + b.length + d.length) (by omega) (by omega)
  rw [show ((a.length + b.length + d.length : Nat) : Int) = (a.length : Int) + (b.length : Int) + (d.length : Int) by omega] at hmk2
  have HA := hide hA
  have HD := hide hD
  clear hA hD
  have hlk : ¬ b.length = k := by omega
  go_enter Try.func3, Try.ntmps3
  go_wp2_with (first | (go_at_call 7; go_in) | (refine wpList_copy_splice rfl _ _ 22 22 rfl 5 Try.underlying22 size5 (some ⟨w.heap.size, 0, none⟩) (some x) b.length b.length b.length cap rfl rfl w.heap.size 0 (madeCells #[.int .u8 0] b.length).toList 5 ?c0 (Lib.byteCells b) ?c1 ?c2 ?c3 (byteCells_one b) w.heap.size w ?c4 (Nat.le_refl _) ?_))
  case c0 => exact heap_alloc_new w _
  case c1 => rw [byteCells_length]; exact (Nat.min_self _).symm
  case c2 => exact fun _ => src_cells ((unhide HS).below (mk_below w _))
  case c3 => rw [byteCells_length, Nat.zero_add]; simp [size_madeCells]
  case c4 => exact mk_below w _
  intro W1 HG hB1
  have hBy := copied (by rw [Array.length_toList, size_madeCells]) HG.out
  have HBy := hide hBy
  have HA1 := hide ((unhide HA).below hB1)
  have HD1 := hide ((unhide HD).below hB1)
  have HB1 := hide hB1
  clear HG hBy hmk hq hB1
  go_wp2
  go_loopw [13, 14] (fun vw vi wr => ∃ k1 : Nat, k1 ≤ a.length ∧ vi = .int .i64 k1 ∧ vw = .int .i64 k1 ∧ Hid (Fill wr W1.heap.size (a.length + b.length + d.length) (a ++ b ++ d) k1) ∧ Hid (Below W1.heap.size W1 wr)) (fun _ vi _ => a.length - (intOf vi).toNat)
  case atStart => exact ⟨0, Nat.zero_le _, rfl, rfl, fill_new _ _ _, mk_below _ _⟩
  case round =>
    obtain ⟨k1, hk1, rfl, rfl, hF, hBl⟩ := hrel
    by_cases hlt1 : k1 < a.length
    · obtain ⟨ba, oa, hao, hba, hca⟩ := unhide HA1 (by omega)
      subst hao
      have hcell := (hBl.out.cell (p := ⟨ba, oa + k1, none⟩) hba).trans (hca k1 hlt1)
      obtain ⟨old, hold⟩ := hF.out.cell (k := k1) (by omega)
      have hfr := hF.out.frozen k1
      have hst := hF.out.step (show k1 < a.length + b.length + d.length by omega)
      rw [whole_a a b d k1 hlt1] at hst
      have HST := hide hst
      have HBL := hide (hBl.out.setCell (Nat.le_refl _) (p := ⟨W1.heap.size, k1, none⟩) (.int .u8 (a[k1]).toNat))
      clear hst hF hBl hca
      generalize (a[k1]).toNat = z at hcell HST HBL
      go_wp2
      go_roundw
      case rel => exact ⟨k1 + 1, by omega, by go_num, by go_num, HST, HBL⟩
      case measure => simp [intOf]; omega
    · obtain rfl : k1 = a.length := by omega
      clear hlt1 hk1
      go_wp2
      go_loopw [13, 15] (fun vw vi wr => ∃ k2 : Nat, k2 ≤ b.length ∧ vi = .int .i64 k2 ∧ vw = .int .i64 ((a.length + k2 : Nat) : Int) ∧ Hid (Fill wr W1.heap.size (a.length + b.length + d.length) (a ++ b ++ d) (a.length + k2)) ∧ Hid (Below W1.heap.size W1 wr)) (fun _ vi _ => b.length - (intOf vi).toNat)
      case atStart => exact ⟨0, Nat.zero_le _, rfl, rfl, hF, hBl⟩
      case round =>
        obtain ⟨k2, hk2, rfl, rfl, hF, hBl⟩ := hrel
        by_cases hlt2 : k2 < b.length
        · have hcell := (hBl.out.cell (p := ⟨w.heap.size, k2, none⟩) (unhide HBy).lt).trans ((unhide HBy).cell k2 hlt2)
          obtain ⟨old, hold⟩ := hF.out.cell (k := a.length + k2) (by omega)
          have hfr := hF.out.frozen (a.length + k2)
          have hst := hF.out.step (show a.length + k2 < a.length + b.length + d.length by omega)
          rw [whole_b a b d k2 hlt2] at hst
          have HST := hide hst
          have HBL := hide (hBl.out.setCell (Nat.le_refl _) (p := ⟨W1.heap.size, a.length + k2, none⟩) (.int .u8 (b[k2]).toNat))
          clear hst hF hBl
          generalize (b[k2]).toNat = z at hcell HST HBL
          go_wp2
          go_roundw
          case rel => exact ⟨k2 + 1, by omega, by go_num, by go_num, HST, HBL⟩
          case measure => simp [intOf]; omega
        · obtain rfl : k2 = b.length := by omega
          clear hlt2 hk2
          go_wp2
          go_loopw [13, 16] (fun vw vi wr => ∃ k3 : Nat, k3 ≤ d.length ∧ vi = .int .i64 k3 ∧ vw = .int .i64 ((a.length + b.length + k3 : Nat) : Int) ∧ Hid (Fill wr W1.heap.size (a.length + b.length + d.length) (a ++ b ++ d) (a.length + b.length + k3)) ∧ Hid (Below W1.heap.size W1 wr)) (fun _ vi _ => d.length - (intOf vi).toNat)
          case atStart => exact ⟨0, Nat.zero_le _, rfl, by go_num, hF, hBl⟩
          case round =>
            obtain ⟨k3, hk3, rfl, rfl, hF, hBl⟩ := hrel
            by_cases hlt3 : k3 < d.length
            · obtain ⟨bd, od, hao, hbd, hcd⟩ := unhide HD1 (by omega)
              subst hao
              have hcell := (hBl.out.cell (p := ⟨bd, od + k3, none⟩) hbd).trans (hcd k3 hlt3)
              obtain ⟨old, hold⟩ := hF.out.cell (k := a.length + b.length + k3) (by omega)
              have hfr := hF.out.frozen (a.length + b.length + k3)
              have hst := hF.out.step (show a.length + b.length + k3 < a.length + b.length + d.length by omega)
              rw [whole_c a b d k3 hlt3] at hst
              have HST := hide hst
              have HBL := hide (hBl.out.setCell (Nat.le_refl _) (p := ⟨W1.heap.size, a.length + b.length + k3, none⟩) (.int .u8 (d[k3]).toNat))
              clear hst hF hBl hcd
              generalize (d[k3]).toNat = z at hcell HST HBL
              go_wp2
              go_roundw
              case rel => exact ⟨k3 + 1, by omega, by go_num, by go_num, HST, HBL⟩
              case measure => simp [intOf]; omega
            · obtain rfl : k3 = d.length := by omega
              clear hlt3 hk3
              have hfull : Bytes wr W1.heap.size (a ++ b ++ d) := by
                refine Fill.done ?_
                rw [(show ((a ++ b ++ d) : List UInt8).length = a.length + b.length + d.length by simp; try omega)]
                exact hF.out
              have HFU := hide hfull
              have HBL := hide hBl.out
              clear hfull hF hBl
              have HByr := hide ((unhide HBy).below (unhide HBL) (unhide HBy).lt)
              have hnote : noteStr (noteOf (span b k c)) = longK := by rw [unhide HO]; rfl
              have HNS := hide hnote
              clear hnote
              go_wp2_with fail
              refine (yn_some w.heap.size k (c - k) (b.length - k) (span b k c) (span_len b k c hc) (by omega) (by omega) wr (span_cells (unhide HByr) hc)).mono ?_
              rintro e W5 ⟨rfl, hW5⟩
              subst hW5
              rw [unhide HNS]
              go_wp2_with fail
              refine (key9 _ b k c hkc hc (by omega) wr (.inr ⟨_, rfl, unhide HByr⟩)).mono ?_
              rintro e W6 ⟨rfl, hN1, hB6⟩
              rw [unhide HO] at hN1
              have HN1 := hide hN1
              have HFU6 := hide ((unhide HFU).below hB6 (unhide HFU).lt)
              have HB6 := hide hB6
              clear hN1 hB6
              go_wp2_with fail
              rw [show ((k : Nat) : Int) + ((a.length : Nat) : Int) = ((k + a.length : Nat) : Int) by omega, show ((c : Nat) : Int) + ((a.length : Nat) : Int) = ((c + a.length : Nat) : Int) by omega]
              have hsp : noteOf (span (a ++ b ++ d) (k + a.length) (c + a.length)) = some longK := by
                rw [span_whole a b d k c hc]; exact unhide HO
              have hpl : ((a ++ b ++ d) : List UInt8).length = a.length + b.length + d.length := by simp; try omega
              refine (key9 (.slice (some ⟨W1.heap.size, 0, none⟩) (a.length + b.length + d.length) (a.length + b.length + d.length)) (a ++ b ++ d) (k + a.length) (c + a.length) (by omega) (by omega) (by omega) W6 (.inr ⟨_, by rw [hpl], unhide HFU6⟩)).mono ?_
              rintro e W7 ⟨rfl, hN2, hB7⟩
              rw [hsp] at hN2
              have HN2 := hide hN2
              have HN1' := hide ((unhide HN1).below hB7)
              have HBE := hide ((((unhide HB1).trans ((unhide HBL).mono (unhide HB1).size)).trans ((unhide HB6).mono (Nat.le_trans (unhide HB1).size (unhide HBL).size))).trans (hB7.mono (Nat.le_trans (Nat.le_trans (unhide HB1).size (unhide HBL).size) (unhide HB6).size)))
              clear hN2 hB7 hsp hpl
              have q1 := later_ne
              have q2 := longK_ne
              have q3 := later_emp
              have q4 := longK_emp
              go_wp2_with fail
              refine (cnt_some _ _ _ _ (unhide HN1')).mono ?_
              rintro e W8 ⟨rfl, hW8⟩
              subst hW8
              go_wp2_with fail
              refine (cnt_some _ _ _ _ (unhide HN2)).mono ?_
              rintro e W9 ⟨rfl, hW9⟩
              subst hW9
              go_wp2_with fail
              refine (place0 _ _ _ _ (unhide HN1')).mono ?_
              rintro e Wa ⟨rfl, na, hWa⟩
              subst hWa
              go_wp2_with fail
              refine (place0 _ _ _ _ ((unhide HN2).drew _)).mono ?_
              rintro e Wb ⟨rfl, nb, hWb⟩
              subst hWb
              go_wp2_with fail
              go_ret
              exact ⟨rfl, below_drewN (unhide HBE) _⟩

end Go.Proofs.Qxb6615701a
