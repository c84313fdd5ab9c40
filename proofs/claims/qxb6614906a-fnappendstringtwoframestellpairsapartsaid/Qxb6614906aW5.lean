/-
  The walk of FnAppendStringWritesPrefixLengthText (function 5).
-/
import Derived.Test.Qxb6614906aCopy
namespace Go.Proofs.Qxb6614906a
open Go Go.RowKit
set_option linter.unusedVariables false

set_option maxHeartbeats 400000 in
theorem w5_big (ao : Option Addr) (n cap : Nat) (s : ByteArray) (w : World) (hn : n ≤ maxLen) (hs : s.size ≤ maxLen) (hbig : 262144 < n ∨ 262144 < s.size) :
    Calls Try.prog 5 #[.slice ao n cap, .string s] w fun e w' => e = .returned (.bool true) ∧ Below w.heap.size w w' := by
  unfold maxLen at hn hs
  by_cases h1 : 1048576 < n
  · go_enter Try.func5, Try.ntmps5
    go_wp2
    go_ret
    exact ⟨rfl, Below.refl _ _⟩
  by_cases h2 : 1048576 < s.size
  · go_enter Try.func5, Try.ntmps5
    go_wp2
    go_ret
    exact ⟨rfl, Below.refl _ _⟩
  by_cases h3 : 1048576 < n + s.size
  · go_enter Try.func5, Try.ntmps5
    go_wp2
    go_ret
    exact ⟨rfl, Below.refl _ _⟩
  by_cases h4 : 262144 < n
  · go_enter Try.func5, Try.ntmps5
    go_wp2
    go_ret
    exact ⟨rfl, Below.refl _ _⟩
  · have h5 : 262144 < s.size := by omega
    go_enter Try.func5, Try.ntmps5
    go_wp2
    go_ret
    exact ⟨rfl, Below.refl _ _⟩

theorem frame_len (l : List UInt8) (s : ByteArray) : (l ++ Plain.frame s.data.toList).length = l.length + (Lib.uvarint s.size).length + s.size := by
  rw [Plain.frame, List.length_append, List.length_append, ← Lib.size_eq, Nat.add_assoc]

theorem app_has {B : Nat} {w w' : World} {v : Value} {l : List UInt8} {s : ByteArray} (h : Apps B w w' v l s) :
    ∃ g cap, v = .slice (some ⟨g, 0, none⟩) (l.length + (Lib.uvarint s.size).length + s.size) cap ∧ l.length + (Lib.uvarint s.size).length + s.size ≤ cap ∧ ∀ j (hj : j < (l ++ Plain.frame s.data.toList).length), w'.cell? ⟨g, j, none⟩ = some (.int .u8 ((l ++ Plain.frame s.data.toList)[j]).toNat) := by
  have hp := Lib.uvarint_pos s.size
  have hl := frame_len l s
  obtain ⟨g, cap, h1, h2, h3⟩ := has_of_own h.1 (by omega)
  rw [hl] at h1 h2
  exact ⟨g, cap, h1, h2, h3⟩

/-- The byte at k of the prefix. -/
theorem out_pre (l : List UInt8) (s : ByteArray) (k : Nat) (hk : k < l.length) (hj : k < (l ++ Plain.frame s.data.toList).length) : (l ++ Plain.frame s.data.toList)[k] = l[k] := List.getElem_append_left hk
/-- The byte at k of the text. -/
theorem out_txt (l : List UInt8) (s : ByteArray) (k : Nat) (hk : k < s.size) (hj : l.length + (Lib.uvarint s.size).length + k < (l ++ Plain.frame s.data.toList).length) : (l ++ Plain.frame s.data.toList)[l.length + (Lib.uvarint s.size).length + k] = s[k] := by
  have h1 : l ++ Plain.frame s.data.toList = (l ++ Lib.uvarint s.size) ++ s.data.toList := by rw [Plain.frame, List.append_assoc, ← Lib.size_eq]
  have h2 : (l ++ Plain.frame s.data.toList)[l.length + (Lib.uvarint s.size).length + k]? = some s[k] := by
    rw [h1, List.getElem?_append_right (by rw [List.length_append]; omega), List.length_append]
    rw [show l.length + (Lib.uvarint s.size).length + k - (l.length + (Lib.uvarint s.size).length) = k by omega]
    rw [Array.getElem?_toList]
    exact Array.getElem?_eq_getElem hk
  rw [List.getElem?_eq_getElem hj] at h2
  exact Option.some.inj h2
theorem out_drop (l : List UInt8) (s : ByteArray) : (l ++ Plain.frame s.data.toList).drop l.length = Lib.uvarint s.size ++ s.data.toList := by
  rw [List.drop_left, Plain.frame, ← Lib.size_eq]

theorem uvLen2 (x : Nat) (hx : x ≤ 1048576) (w : World) : Calls Try.prog 13 #[.int .u64 x] w fun e w' => e = .returned (.int .i64 (Lib.uvarint x).length) ∧ w = w' :=
  (uvLen_any x hx w).mono fun e w' ⟨h1, h2⟩ => ⟨h1, h2.symm⟩

set_option maxHeartbeats 1600000 in
theorem w5_blk (x : Addr) (l : List UInt8) (cap : Nat) (s : ByteArray) (w : World) (hn : l.length ≤ 262144) (hcap : l.length ≤ cap) (hs : s.size ≤ 262144) (hsrc : Src w x l) :
    Calls Try.prog 5 #[.slice (some x) l.length cap, .string s] w fun e w' => e = .returned (.bool true) ∧ Below w.heap.size w w' := by
  have HS := hide hsrc
  clear hsrc
  have hu := Plain.uv_len_le3 hs
  go_enter Try.func5, Try.ntmps5
  go_wp2_with (go_at_call 10; go_in)
  refine (clone_src x cap l w (unhide HS) hcap (by omega)).mono ?_
  rintro e W1 ⟨rfl, hB1, hb1⟩
  go_wp2_with fail
  refine (clone_src ⟨w.heap.size, 0, none⟩ l.length l W1 hB1.src (Nat.le_refl _) (by omega)).mono ?_
  rintro e W2 ⟨rfl, hB2, hb2⟩
  go_wp2_with fail
  refine (app_full _ l s (by omega) (by omega) W2 (hB1.below hb2 hB1.lt).full).mono ?_
  rintro e W3 ⟨vo, rfl, hA⟩
  have hB3 := hB2.below hA.2 hB2.lt
  obtain ⟨g3, c3, hvo, hc3, hcells⟩ := app_has hA
  have hbel : Below w.heap.size w W3 := (hb1.trans (hb2.mono hb1.size)).trans (hA.2.mono (Nat.le_trans hb1.size hb2.size))
  subst hvo
  have HB3 := hide hB3
  have HC := hide hcells
  have HBEL := hide hbel
  clear hA hB1 hB2 hb1 hb2 hB3 hcells hbel
  go_wp2_with (go_at_call 13; refine (uvLen2 s.size (by omega) _).mono ?_; rintro e w' ⟨rfl, rfl⟩)
  go_loopw [7] (fun i wr => ∃ k m : Nat, k ≤ l.length ∧ i = .int .i64 k ∧ wr = W3.drewN m) (fun i _ => l.length - (intOf i).toNat)
  case atStart => exact ⟨0, 0, Nat.zero_le _, rfl, rfl⟩
  case round =>
    obtain ⟨k, m, hk, rfl, rfl⟩ := hrel
    by_cases hlt : k < l.length
    · have hj : k < (l ++ Plain.frame s.data.toList).length := by rw [frame_len]; omega
      have c1 := unhide HC k hj
      rw [out_pre l s k hlt hj] at c1
      have c2 := (unhide HB3).cell k hlt
      generalize l[k] = c at c1 c2
      have hne : ((c.toNat : Int) != c.toNat) = false := by simp
      clear hj
      go_wp2
      go_quiet (fail)
      go_wp2
      go_roundw
      case rel => exact ⟨k + 1, _, by omega, by go_num, rfl⟩
      case measure => simp [intOf]; omega
    · go_wp2_with fail
      refine (read_any g3 c3 (l.length + (Lib.uvarint s.size).length + s.size) l.length s.size (l ++ Plain.frame s.data.toList) s.data.toList (frame_len l s) (by omega) hc3 hs (out_drop l s) (W3.drewN m) (fun j hj => unhide HC j hj)).mono ?_
      rintro e W4 ⟨rfl, hW4⟩
      subst hW4
      have hne1 : ((s.size : Int) != (s.size : Int)) = false := by simp
      have hne2 : (((Lib.uvarint s.size).length : Int) != ((Lib.uvarint s.size).length : Int)) = false := by simp
      go_wp2_with (go_at_call 13; refine (uvLen2 s.size (by omega) _).mono ?_; rintro e w' ⟨rfl, rfl⟩)
      go_loopw [12] (fun i wr => ∃ k m : Nat, k ≤ s.size ∧ i = .int .i64 k ∧ wr = W3.drewN m) (fun i _ => s.size - (intOf i).toNat)
      case atStart => exact ⟨0, _, Nat.zero_le _, rfl, rfl⟩
      case round =>
        obtain ⟨k2, m2, hk2, rfl, rfl⟩ := hrel
        by_cases hlt2 : k2 < s.size
        · have hj : l.length + (Lib.uvarint s.size).length + k2 < (l ++ Plain.frame s.data.toList).length := by rw [frame_len]; omega
          have c1 := unhide HC _ hj
          rw [out_txt l s k2 hlt2 hj] at c1
          clear hj
          have hne : ((s[k2].toNat : Int) != s[k2].toNat) = false := by simp
          go_wp2
          go_quiet (fail)
          go_wp2
          go_roundw
          case rel => exact ⟨k2 + 1, _, by omega, by go_num, rfl⟩
          case measure => simp [intOf]; omega
        · go_wp2
          go_ret
          exact ⟨rfl, below_drewN (unhide HBEL) _⟩

set_option maxHeartbeats 1600000 in
theorem w5_nil (s : ByteArray) (w : World) (hs : s.size ≤ 262144) :
    Calls Try.prog 5 #[.slice none 0 0, .string s] w fun e w' => e = .returned (.bool true) ∧ Below w.heap.size w w' := by
  have hu := Plain.uv_len_le3 hs
  go_enter Try.func5, Try.ntmps5
  go_wp2_with (go_at_call 10; go_in)
  refine (clone_nil w).mono ?_
  rintro e W1 ⟨rfl, hW1⟩
  subst hW1
  go_wp2_with fail
  refine (clone_nil W1).mono ?_
  rintro e W2 ⟨rfl, hW2⟩
  subst hW2
  go_wp2_with fail
  refine (app_full _ [] s (by simp) (by omega) W2 (.inl ⟨rfl, rfl⟩)).mono ?_
  rintro e W3 ⟨vo, rfl, hA⟩
  obtain ⟨g3, c3, hvo, hc3, hcells⟩ := app_has hA
  have hbel : Below W2.heap.size W2 W3 := hA.2
  rw [List.length_nil, Nat.zero_add] at hvo hc3
  subst hvo
  have HC := hide hcells
  have HBEL := hide hbel
  clear hA hcells hbel
  go_wp2_with (go_at_call 13; refine (uvLen2 s.size (by omega) _).mono ?_; rintro e w' ⟨rfl, rfl⟩)
  go_loopw [7] (fun i wr => i = .int .i64 0 ∧ wr = W3) (fun i _ => 0)
  case atStart => exact ⟨rfl, rfl⟩
  case round =>
    obtain ⟨rfl, rfl⟩ := hrel
    go_wp2_with fail
    refine (read_any g3 c3 ((Lib.uvarint s.size).length + s.size) 0 s.size ([] ++ Plain.frame s.data.toList) s.data.toList (by rw [frame_len]; simp) (by omega) hc3 hs (out_drop [] s) _ (fun j hj => unhide HC j hj)).mono ?_
    rintro e W4 ⟨rfl, hW4⟩
    subst hW4
    have hne1 : ((s.size : Int) != (s.size : Int)) = false := by simp
    have hne2 : (((Lib.uvarint s.size).length : Int) != ((Lib.uvarint s.size).length : Int)) = false := by simp
    go_wp2_with (go_at_call 13; refine (uvLen2 s.size (by omega) _).mono ?_; rintro e w' ⟨rfl, rfl⟩)
    go_loopw [12] (fun i wr => ∃ k m : Nat, k ≤ s.size ∧ i = .int .i64 k ∧ wr = W4.drewN m) (fun i _ => s.size - (intOf i).toNat)
    case atStart => exact ⟨0, 0, Nat.zero_le _, rfl, rfl⟩
    case round =>
      obtain ⟨k2, m2, hk2, rfl, rfl⟩ := hrel
      by_cases hlt2 : k2 < s.size
      · have hj : ([] : List UInt8).length + (Lib.uvarint s.size).length + k2 < ([] ++ Plain.frame s.data.toList).length := by rw [frame_len]; omega
        have c1 := unhide HC _ hj
        rw [out_txt [] s k2 hlt2 hj, List.length_nil, Nat.zero_add] at c1
        clear hj
        have hne : ((s[k2].toNat : Int) != s[k2].toNat) = false := by simp
        go_wp2
        go_quiet (fail)
        go_wp2
        go_roundw
        case rel => exact ⟨k2 + 1, _, by omega, by go_num, rfl⟩
        case measure => simp [intOf]; omega
      · go_wp2
        go_ret
        exact ⟨rfl, below_drewN (unhide HBEL) _⟩
end Go.Proofs.Qxb6614906a
