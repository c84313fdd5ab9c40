/-
  encoding/binary.AppendUvarint (42) into a chunk with room.
-/
import Derived.Test.Qxb6615701aTmem
namespace Go.Proofs.Qxb6615701a
open Go Go.RowKit
set_option linter.unusedVariables false

/-- One byte more, at the end of the chunk. -/
theorem push_room {w wr : World} {g cs n : Nat} {l : List UInt8} {c : Nat} (o : Obj) (hn : n = l.length) (h : Ch wr g cs l) (ht : Touch w wr (· = g)) (hr : l.length < cs) (hc : c < 256) :
    Ch ((wr.alloc o).setCells g (0 + n * 1) [.int .u8 (c : Int)]) g cs (l ++ [c.toUInt8]) ∧ Touch w ((wr.alloc o).setCells g (0 + n * 1) [.int .u8 (c : Int)]) (· = g) := by
  subst hn
  have e : (wr.alloc o).setCells g (0 + l.length * 1) [.int .u8 (c : Int)] = (wr.alloc o).setCell ⟨g, l.length, none⟩ (.int .u8 (c : Int)) := by
    rw [Nat.mul_one, Nat.zero_add]; rfl
  rw [e]
  exact ⟨ch_push (h.alloc o) hr hc, (ht.alloc o).set g _ _ (fun _ => rfl)⟩

theorem spare_room {wr : World} {g cs n : Nat} {l : List UInt8} (o : Obj) (h : Ch wr g cs l) (v : Value) : n + 1 ≤ cs → ∀ j, j < [v].length → ((wr.alloc o).cell? ⟨g, 0 + n * 1 + j, none⟩).isSome = true ∧ (wr.alloc o).frozen? ⟨g, 0 + n * 1 + j, none⟩ = false := by
  intro h1 j hj
  rw [List.length_singleton] at hj
  exact (h.alloc o).some _ (by omega)

set_option maxHeartbeats 800000 in
set_option maxRecDepth 100000 in
theorem uv_room (x : Nat) (hx : x < 18446744073709551616) (g cs : Nat) (hcs : cs ≤ 65536) (l : List UInt8) (hr : l.length + (Lib.uvarint x).length ≤ cs) (w : World) (hw : Ch w g cs l) (m : Nat) (hm : m = l.length) :
    Calls Try.prog 42 #[.slice (some ⟨g, 0, none⟩) m cs, .int .u64 x] w fun e w' => e = .returned (.slice (some ⟨g, 0, none⟩) (l ++ Lib.uvarint x).length cs) ∧ Ch w' g cs (l ++ Lib.uvarint x) ∧ Touch w w' (· = g) := by
  obtain ⟨i0, hi, hz0, hz1, hz2⟩ := info_parts info5
  have hx' := hide hx
  have hr' := hide hr
  clear hx hr
  subst hm
  go_enter Try.func42, Try.ntmps42
  go_wp2
  go_loopw [0, 1] (fun vb vx wr => ∃ (y : Nat) (pre : List UInt8), vx = .int .u64 y ∧ y ≤ x ∧ Hid (Lib.uvarint x = pre ++ Lib.uvarint y) ∧ vb = .slice (some ⟨g, 0, none⟩) (l.length + pre.length) cs ∧ Ch wr g cs (l ++ pre) ∧ Touch w wr (· = g))
    (fun _ vx _ => (intOf vx).toNat)
  case atStart => exact ⟨x, [], rfl, Nat.le_refl _, rfl, rfl, by rw [List.append_nil]; exact hw, Touch.refl _ _⟩
  case round =>
    obtain ⟨y, pre, rfl, hy, hsp, rfl, hch, htc⟩ := hrel
    have hyp := Lib.uvarint_pos y
    have hpl : l.length + pre.length + 1 ≤ cs := by
      have h2 := congrArg List.length hsp.out
      rw [List.length_append] at h2
      have := unhide hr'
      omega
    have hy64 : y < 18446744073709551616 := by have := unhide hx'; omega
    have hlen : l.length + pre.length = (l ++ pre).length := by rw [List.length_append]
    have HL := hide hlen
    clear hlen
    by_cases h128 : 128 ≤ y
    · have hor : bits .or .u8 ((y : Int) % 256) 128 = (y : Int) % 128 + 128 := by
        rw [Lib.u8_or128_any _ (by omega) (by omega)]
        omega
      have ec : (y : Int) % 128 + 128 = ((y % 128 + 128 : Nat) : Int) := by omega
      have EC := hide ec
      clear ec
      have hsp2 : Hid (Lib.uvarint x = (pre ++ [(y % 128 + 128).toUInt8]) ++ Lib.uvarint (y / 128)) := by
        show _ = _
        rw [hsp.out, Lib.uvarint_big h128]; simp
      clear hsp
      go_wp2_with (at_builtin; refine wpList_append_arg _ rfl _ _ 22 rfl 5 i0 (.int .u8 0) 1 1 Try.underlying22 hi hz0 hz1 hz2 rfl (by decide) g 0 (l.length + pre.length) cs (Lib.byteCells (l ++ pre)) rfl ?c1 (hch.alloc _).cells ⟨wr.heap.size, 0, none⟩ 1 1 [Value.int .u8 ((y : Int) % 128 + 128)] rfl rfl (new1 _ _) (one1 _) (spare_room _ hch _) ?c2 ?c3 ?c4 ?c5)
      case c1 => rw [byteCells_length, Nat.mul_one, List.length_append]
      case c2 => unfold maxLen; omega
      case c3 => omega
      case c5 => intro h; omega
      have R := hide (push_room (c := y % 128 + 128) (.cells #[.int .u8 ((y % 128 + 128 : Nat) : Int)] 5) (unhide HL) hch htc (by have := unhide HL; omega) (by omega))
      rw [Nat.mul_one, Nat.zero_add, ← unhide EC] at R
      exact ⟨⟨y / 128, pre ++ [(y % 128 + 128).toUInt8], by go_num, by omega, hsp2, by rw [List.length_append, List.length_singleton, ← Nat.add_assoc], by rw [← List.append_assoc]; exact (unhide R).1, (unhide R).2⟩, by simp [intOf]; omega⟩
    · have hsp2 : Hid (Lib.uvarint x = pre ++ [y.toUInt8]) := by
        show _ = _
        rw [hsp.out, Lib.uvarint_small (by omega)]
      clear hsp
      have y256 : (y : Int) % 256 = y := by omega
      go_wp2_with (at_builtin; refine wpList_append_arg _ rfl _ _ 22 rfl 5 i0 (.int .u8 0) 1 1 Try.underlying22 hi hz0 hz1 hz2 rfl (by decide) g 0 (l.length + pre.length) cs (Lib.byteCells (l ++ pre)) rfl ?d1 (hch.alloc _).cells ⟨wr.heap.size, 0, none⟩ 1 1 [Value.int .u8 (y : Int)] rfl rfl (new1 _ _) (one1 _) (spare_room _ hch _) ?d2 ?d3 ?d4 ?d5)
      case d1 => rw [byteCells_length, Nat.mul_one, List.length_append]
      case d2 => unfold maxLen; omega
      case d3 => omega
      case d5 => intro h; omega
      have R := hide (push_room (c := y) (.cells #[.int .u8 (y : Int)] 5) (unhide HL) hch htc (by have := unhide HL; omega) (by omega))
      rw [Nat.mul_one, Nat.zero_add] at R
      go_ret
      refine ⟨?_, ?_, (unhide R).2⟩
      · rw [hsp2.out]; simp only [List.length_append, List.length_singleton, Nat.add_assoc]; rfl
      · rw [hsp2.out, ← List.append_assoc]; exact (unhide R).1
end Go.Proofs.Qxb6615701a
