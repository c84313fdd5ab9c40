/-
  noteKeyForYAML (27), ZZNoteKeyForYAML (9), ZZYAMLCount (10), ZZYAMLPlace (11).
-/
import Derived.Test.Qxb6615701aNote
namespace Go.Proofs.Qxb6615701a
open Go Go.RowKit
set_option linter.unusedVariables false

/-- The message on a colon on a later line. -/
def later : ByteArray := ⟨#[89, 65, 77, 76, 32, 116, 97, 107, 101, 115, 32, 97, 32, 107, 101, 121, 32, 111, 110, 108, 121, 32, 119, 104, 101, 114, 101, 32, 105, 116, 115, 32, 39, 58, 39, 32, 115, 116, 97, 110, 100, 115, 32, 111, 110, 32, 116, 104, 101, 32, 107, 101, 121, 39, 115, 32, 108, 105, 110, 101, 59, 32, 112, 117, 116, 32, 116, 104, 101, 32, 39, 58, 39, 32, 116, 104, 101, 114, 101, 44, 32, 111, 114, 32, 114, 117, 110, 32, 114, 117, 116, 104, 32, 102, 109, 116]⟩
/-- The message on a long key. -/
def longK : ByteArray := ⟨#[89, 65, 77, 76, 32, 116, 97, 107, 101, 115, 32, 97, 32, 107, 101, 121, 32, 111, 110, 108, 121, 32, 119, 104, 101, 114, 101, 32, 105, 116, 115, 32, 39, 58, 39, 32, 115, 116, 97, 110, 100, 115, 32, 119, 105, 116, 104, 105, 110, 32, 49, 44, 48, 50, 52, 32, 99, 104, 97, 114, 97, 99, 116, 101, 114, 115, 32, 111, 102, 32, 105, 116, 115, 32, 111, 112, 101, 110, 105, 110, 103, 32, 113, 117, 111, 116, 101, 59, 32, 119, 114, 105, 116, 101, 32, 97, 32, 115, 104, 111, 114, 116, 101, 114, 32, 107, 101, 121]⟩

theorem later_ne : (later.toList == longK.toList) = false := by
  rw [ByteArray.toList_eq, ByteArray.toList_eq]
  decide +kernel
theorem longK_ne : (longK.toList == later.toList) = false := by
  rw [ByteArray.toList_eq, ByteArray.toList_eq]
  decide +kernel
theorem later_emp : later.toList.isEmpty = false := by
  rw [ByteArray.toList_eq]
  decide +kernel
theorem longK_emp : longK.toList.isEmpty = false := by
  rw [ByteArray.toList_eq]
  decide +kernel

/-- What is noted of the bytes between a key's quote and its colon. -/
def noteOf (l : List UInt8) : Option ByteArray := if Plain.hasBr l = true then some later else if 1024 < Plain.rc l 0 then some longK else none

/-- What the notes in block gy hold. -/
def NoteIs (w : World) (gy : Nat) (off : Int) : Option ByteArray → Prop
  | none => w.cell? ⟨gy, 0, none⟩ = some (.slice none 0 0)
  | some m => Noted w gy off m

theorem grown_below {w w' : World} {gy : Nat} (h : Below w.heap.size w w') : w.grownBy w' (some gy) := ⟨h.os, h.tape, h.output, h.size, fun k hk _ => h.block k hk⟩
theorem grown_trans {a b c : World} {gy : Nat} (h : Below a.heap.size a b) (k : b.grownBy c (some gy)) : a.grownBy c (some gy) :=
  ⟨k.os.trans h.os, k.tape.trans h.tape, k.output.trans h.output, Nat.le_trans h.size k.size, fun i hi hne => (k.block i (Nat.lt_of_lt_of_le hi h.size) hne).trans (h.block i hi)⟩

/-- The reader in block gr: its document, its notes in block gy, still empty. -/
structure Rd (w : World) (gr gy : Nat) (doc : Value) : Prop where
  doc : w.cell? ⟨gr, 0, none⟩ = some doc
  yaml : w.cell? ⟨gr, 8, none⟩ = some (.pointer (some ⟨gy, 0, none⟩))
  notes : w.cell? ⟨gy, 0, none⟩ = some (.slice none 0 0)
  fr : w.frozen? ⟨gy, 0, none⟩ = false

theorem Rd.below {w w' : World} {gr gy : Nat} {doc : Value} (h : Rd w gr gy doc) (hb : Below w.heap.size w w') : Rd w' gr gy doc :=
  ⟨(hb.cell (p := ⟨gr, 0, none⟩) (World.block_lt_of_cell? w _ h.doc)).trans h.doc, (hb.cell (p := ⟨gr, 8, none⟩) (World.block_lt_of_cell? w _ h.yaml)).trans h.yaml, (hb.cell (p := ⟨gy, 0, none⟩) (World.block_lt_of_cell? w _ h.notes)).trans h.notes, (hb.frozen (p := ⟨gy, 0, none⟩) (World.block_lt_of_cell? w _ h.notes)).trans h.fr⟩

set_option maxHeartbeats 400000 in
theorem key27_brk (g n k c gr gy : Nat) (l : List UInt8) (hl : l.length = c - k) (hk : k < c) (hc : c ≤ n) (hn : n ≤ 1048576) (w : World)
    (hr : Rd w gr gy (.slice (some ⟨g, 0, none⟩) n n))
    (hcell : ∀ j (hj : j < l.length), w.cell? ⟨g, k + j, none⟩ = some (.int .u8 (l[j]).toNat)) (hb : Plain.hasBr l = true) :
    Calls Try.prog 27 #[.pointer (some ⟨gr, 0, none⟩), .int .i64 k, .int .i64 c] w fun e w' => e = .returned (.tuple #[]) ∧ Noted w' gy k later ∧ w.grownBy w' (some gy) := by
  have HC := hide hcell
  have HL := hide hl
  have hnk : ¬ n = k := by omega
  have h0 := hr.doc
  have h8 := hr.yaml
  have HR := hide hr
  clear hcell hl hr
  go_enter Try.func27, Try.ntmps27
  go_wp2_with fail
  refine (cont_some g k (c - k) (n - k) l (unhide HL) (by omega) (by omega) _ (unhide HC)).mono ?_
  rintro e w' ⟨rfl, hw⟩
  subst hw
  go_wp2_with fail
  refine (note_first gy k _ _ (unhide HR).notes (unhide HR).fr).mono ?_
  rintro e w2 ⟨rfl, hN, hG⟩
  have HN := hide hN
  have HG := hide hG
  clear hN hG
  go_wp2
  refine bodyPost_ret (results_none Try.results27 _ _ _) rfl ?_
  exact ⟨rfl, unhide HN, unhide HG⟩

set_option maxHeartbeats 400000 in
theorem key27_short (g n k c gr gy : Nat) (l : List UInt8) (hl : l.length = c - k) (hk : k < c) (hc : c ≤ n) (hn : n ≤ 1048576) (w : World)
    (hr : Rd w gr gy (.slice (some ⟨g, 0, none⟩) n n))
    (hcell : ∀ j (hj : j < l.length), w.cell? ⟨g, k + j, none⟩ = some (.int .u8 (l[j]).toNat)) (hb : Plain.hasBr l = false) (hs : c - k ≤ 1024) :
    Calls Try.prog 27 #[.pointer (some ⟨gr, 0, none⟩), .int .i64 k, .int .i64 c] w fun e w' => e = .returned (.tuple #[]) ∧ w' = w := by
  have HC := hide hcell
  have HL := hide hl
  have hnk : ¬ n = k := by omega
  have h0 := hr.doc
  have h8 := hr.yaml
  clear hcell hl hr
  go_enter Try.func27, Try.ntmps27
  go_wp2_with fail
  refine (cont_some g k (c - k) (n - k) l (unhide HL) (by omega) (by omega) _ (unhide HC)).mono ?_
  rintro e w' ⟨rfl, hw⟩
  subst hw
  go_wp2
  go_end0
  exact ⟨rfl, rfl⟩

set_option maxHeartbeats 400000 in
theorem key27_few (g n k c gr gy : Nat) (l : List UInt8) (hl : l.length = c - k) (hk : k < c) (hc : c ≤ n) (hn : n ≤ 1048576) (w : World)
    (hr : Rd w gr gy (.slice (some ⟨g, 0, none⟩) n n))
    (hcell : ∀ j (hj : j < l.length), w.cell? ⟨g, k + j, none⟩ = some (.int .u8 (l[j]).toNat)) (hb : Plain.hasBr l = false) (hs : 1024 < c - k) (hrc : Plain.rc l 0 ≤ 1024) :
    Calls Try.prog 27 #[.pointer (some ⟨gr, 0, none⟩), .int .i64 k, .int .i64 c] w fun e w' => e = .returned (.tuple #[]) ∧ Below w.heap.size w w' := by
  have HC := hide hcell
  have HL := hide hl
  have hnk : ¬ n = k := by omega
  have h0 := hr.doc
  have h8 := hr.yaml
  clear hcell hl hr
  go_enter Try.func27, Try.ntmps27
  go_wp2_with fail
  refine (cont_some g k (c - k) (n - k) l (unhide HL) (by omega) (by omega) _ (unhide HC)).mono ?_
  rintro e w' ⟨rfl, hw⟩
  subst hw
  go_wp2_with fail
  refine (count_some g k (c - k) (n - k) l (unhide HL) (by omega) (by omega) _ (unhide HC)).mono ?_
  rintro e w2 ⟨rfl, hbe⟩
  go_wp2
  go_end0
  exact ⟨rfl, hbe⟩

set_option maxHeartbeats 400000 in
theorem key27_many (g n k c gr gy : Nat) (l : List UInt8) (hl : l.length = c - k) (hk : k < c) (hc : c ≤ n) (hn : n ≤ 1048576) (w : World)
    (hr : Rd w gr gy (.slice (some ⟨g, 0, none⟩) n n))
    (hcell : ∀ j (hj : j < l.length), w.cell? ⟨g, k + j, none⟩ = some (.int .u8 (l[j]).toNat)) (hb : Plain.hasBr l = false) (hs : 1024 < c - k) (hrc : 1024 < Plain.rc l 0) :
    Calls Try.prog 27 #[.pointer (some ⟨gr, 0, none⟩), .int .i64 k, .int .i64 c] w fun e w' => e = .returned (.tuple #[]) ∧ Noted w' gy k longK ∧ w.grownBy w' (some gy) := by
  have HC := hide hcell
  have HL := hide hl
  have hnk : ¬ n = k := by omega
  have h0 := hr.doc
  have h8 := hr.yaml
  have HR := hide hr
  clear hcell hl hr
  go_enter Try.func27, Try.ntmps27
  go_wp2_with fail
  refine (cont_some g k (c - k) (n - k) l (unhide HL) (by omega) (by omega) _ (unhide HC)).mono ?_
  rintro e w' ⟨rfl, hw⟩
  subst hw
  go_wp2_with fail
  refine (count_some g k (c - k) (n - k) l (unhide HL) (by omega) (by omega) _ (unhide HC)).mono ?_
  rintro e w2 ⟨rfl, hbe⟩
  have hr2 := (unhide HR).below hbe
  have h0' := hr2.doc
  have h8' := hr2.yaml
  have HR2 := hide hr2
  have HB := hide hbe
  clear hr2 hbe
  go_wp2_with fail
  refine (note_first gy k _ _ (unhide HR2).notes (unhide HR2).fr).mono ?_
  rintro e w3 ⟨rfl, hN, hG⟩
  have HN := hide hN
  have HG := hide hG
  clear hN hG
  go_wp2
  go_end0
  exact ⟨rfl, unhide HN, grown_trans (unhide HB) (unhide HG)⟩
end Go.Proofs.Qxb6615701a
