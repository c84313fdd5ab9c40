/-
  ParseSeq (function 6) and parsePositive (14): what they answer at every string ('Plain.parseL').
-/
import Derived.Test.Qxb6614506aDoorPlain
import Derived.Test.Qxb6614506aDoorShelf
import Derived.Test.Qxb6614506aDoorParse
import Derived.Test.Qxb6614506aDoorProg
import Derived.WalkKit
import Derived.WalkSpells
import Derived.WalkLawsBesides
import Derived.Deep.QuietTactic
import Derived.BigQuiet
import Derived.RegionTactic
namespace Go.Proofs.Qxb6614506aDoor
open Go.Shelf Go.RowKit

theorem hide {p : Prop} (h : p) : Hid p := h
theorem unhide {p : Prop} (h : Hid p) : p := h

theorem iL : LaysPu.n16 Tryd.prog Tryd.laysPu14_ren := { Tryd.laysPu14 with }

/-- internal/strconv.ParseUint(s, 10, 63) at every string. -/
theorem inner63 (t : ByteArray) (hmax : t.size ≤ 9223372036854775806) (w : World) :
    Calls Tryd.prog 17 #[.string t, .int .i64 10, .int .i64 63] w fun e w' => e = .returned (Lib.uintTupleM 38 9223372036854775807 (Lib.parseUintB 63 t.data.toList)) ∧ (w' = w ∨ w' = Lib.bytesWorld w 5 t) := by
  have eM : (2 : Nat) ^ 63 - 1 = 9223372036854775807 := by decide
  by_cases h0 : t.size = 0
  · have ht : t = ⟨#[]⟩ := by
      apply ByteArray.ext
      exact Array.eq_empty_of_size_eq_zero h0
    subst ht
    exact (AnyPu.internal_strconv_ParseUint_empty iL 10 63 w).mono fun e w' ⟨he, hw⟩ => ⟨he, Or.inl hw⟩
  · have hne : t.data.toList ≠ [] := fun h => h0 (by rw [Lib.size_eq, h]; rfl)
    refine (internal_ParseUint_10_b63 iL t h0 hmax w).mono fun e w' ⟨he, hw⟩ => ⟨?_, Or.inr hw⟩
    rw [he, Lib.parseUintB, if_neg hne, eM]
    rfl

set_option maxHeartbeats 400000 in
/-- strconv.toError at the two errors that the parser gives. -/
theorem toErr (fn s : ByteArray) (base bits k : Int) (hk : k = 1 ∨ k = 2) (e1 e2 : Value) (w : World) (hlim : s.size ≤ 281474976710656) (h1 : w.cell? ⟨1, 0, none⟩ = some e1) (i1 : e1 = .nilIface ∨ ∃ te pe, e1 = .iface te pe) (h2 : w.cell? ⟨2, 0, none⟩ = some e2) (i2 : e2 = .nilIface ∨ ∃ te pe, e2 = .iface te pe) :
    Calls Tryd.prog 18 #[.string fn, .string s, .int .i64 base, .int .i64 bits, .iface 38 (.int .i64 k)] w fun e w' => ∃ N, e = .returned (.iface 41 (.pointer (some ⟨N, 0, none⟩))) ∧ Below w.heap.size w w' := by
  rcases hk with rfl | rfl
  · refine (AnyPu.strconv_toError_range (P := Tryd.prog) (ρ := Tryd.laysPu14_ren) { Tryd.laysPu14 with } fn s base bits e2 w hlim h2 i2).mono ?_
    rintro e w' ⟨N, rfl, _, _, hb⟩
    exact ⟨N, rfl, hb⟩
  · have heq : ∀ W, (binOp .eql 26 (.iface 38 (.int .i64 2)) (.iface 38 (.int .i64 2))).run Tryd.prog W = .ok (.bool true) W := fun W => Lib.run_eql_iface_int W 2 2 Tryd.laysPu14.t24 Tryd.laysPu14.c34 Tryd.laysPu14.t34
    have hS := fun W (hv : W.cell? ⟨1, 0, none⟩ = some e1) => AnyPu.strconv_syntaxError (P := Tryd.prog) (ρ := Tryd.laysPu14_ren) { Tryd.laysPu14 with } fn s e1 W hlim hv i1
    go_enter Tryd.func18, Tryd.ntmps18
    go_wp2_with (go_at_call 21; refine (hS _ ?_).mono ?_)
    · exact h1
    rintro e w2 ⟨N, rfl, _, _, h3⟩
    go_wp2
    go_ret
    exact ⟨N, rfl, h3⟩

set_option maxHeartbeats 400000 in
theorem parseUint_ok (s : ByteArray) (hlim : s.size ≤ 281474976710656) (u : Nat) (h : Lib.parseUintB 63 s.data.toList = .ok u) (w : World) :
    Calls Tryd.prog 16 #[.string s, .int .i64 10, .int .i64 63] w fun e w' => e = .returned (.tuple #[.int .u64 u, .nilIface]) ∧ Below w.heap.size w w' := by
  have hI := inner63 s (by omega) w
  rw [h] at hI
  have hI : Calls Tryd.prog 17 #[.string s, .int .i64 10, .int .i64 63] w fun e w' => e = .returned (.tuple #[.int .u64 u, .nilIface]) ∧ (w' = w ∨ w' = Lib.bytesWorld w 5 s) := hI
  have H := hide hI
  clear hI h
  go_enter Tryd.func16, Tryd.ntmps16
  go_wp2_with (go_at_call 17; refine (unhide H).mono ?_; rintro e W1 ⟨rfl, hW⟩)
  have hb1 : Below w.heap.size w W1 := by
    rcases hW with rfl | rfl
    · exact Below.refl _ _
    · exact Lib.bytesWorld_below _ _ _
  clear hW
  go_wp2
  go_ret2
  exact ⟨rfl, hb1⟩

set_option maxHeartbeats 400000 in
theorem parseUint_bad (s : ByteArray) (hlim : s.size ≤ 281474976710656) (h : ∀ u, Lib.parseUintB 63 s.data.toList ≠ .ok u) (e1 e2 : Value) (w : World) (h1 : w.cell? ⟨1, 0, none⟩ = some e1) (i1 : e1 = .nilIface ∨ ∃ te pe, e1 = .iface te pe) (h2 : w.cell? ⟨2, 0, none⟩ = some e2) (i2 : e2 = .nilIface ∨ ∃ te pe, e2 = .iface te pe) :
    Calls Tryd.prog 16 #[.string s, .int .i64 10, .int .i64 63] w fun e w' => ∃ (x : Int) (N : Nat), e = .returned (.tuple #[.int .u64 x, .iface 41 (.pointer (some ⟨N, 0, none⟩))]) ∧ Below w.heap.size w w' := by
  have hI := inner63 s (by omega) w
  obtain ⟨x, k, hk, hx⟩ : ∃ x k : Int, (k = 1 ∨ k = 2) ∧ Lib.uintTupleM 38 9223372036854775807 (Lib.parseUintB 63 s.data.toList) = .tuple #[.int .u64 x, .iface 38 (.int .i64 k)] := by
    cases hh : Lib.parseUintB 63 s.data.toList with
    | ok u => exact absurd hh (h u)
    | range => exact ⟨9223372036854775807, 1, .inl rfl, rfl⟩
    | _ => exact ⟨0, 2, .inr rfl, rfl⟩
  rw [hx] at hI
  have H := hide hI
  have Hk := hide hk
  have H1 := hide h1
  have H2 := hide h2
  have hg1 : 1 < w.heap.size := Lib.lt_of_cell h1
  have hg2 : 2 < w.heap.size := Lib.lt_of_cell h2
  have I1 := hide i1
  have I2 := hide i2
  clear hI h hx hk h1 h2 i1 i2
  go_enter Tryd.func16, Tryd.ntmps16
  go_wp2_with (go_at_call 17; refine (unhide H).mono ?_; rintro e W1 ⟨rfl, hW⟩)
  have hb1 : Below w.heap.size w W1 := by
    rcases hW with rfl | rfl
    · exact Below.refl _ _
    · exact Lib.bytesWorld_below _ _ _
  clear hW
  have HT := hide (toErr ⟨#[80, 97, 114, 115, 101, 85, 105, 110, 116]⟩ s 10 63 k (unhide Hk) e1 e2 W1 hlim ((hb1.cell (p := ⟨1, 0, none⟩) hg1).trans (unhide H1)) (unhide I1) ((hb1.cell (p := ⟨2, 0, none⟩) hg2).trans (unhide H2)) (unhide I2))
  go_wp2_with (go_at_call 18; refine (unhide HT).mono ?_; rintro e W2 ⟨N, rfl, hb2⟩)
  go_wp2
  go_ret2
  exact ⟨x, N, rfl, hb1.trans (hb2.mono hb1.size)⟩
end Go.Proofs.Qxb6614506aDoor
