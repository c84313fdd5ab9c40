/-
  ZZNoteKeyForYAML (9), ZZYAMLCount (10), ZZYAMLPlace (11).
-/
import Derived.Test.Qxb6615701aKey
namespace Go.Proofs.Qxb6615701a
open Go Go.RowKit
set_option linter.unusedVariables false

set_option maxHeartbeats 400000 in
theorem key27_nil (gr gy : Nat) (w : World) (hr : Rd w gr gy (.slice none 0 0)) :
    Calls Try.prog 27 #[.pointer (some ⟨gr, 0, none⟩), .int .i64 0, .int .i64 0] w fun e w' => e = .returned (.tuple #[]) ∧ w' = w := by
  have h0 := hr.doc
  have h8 := hr.yaml
  have hb : Plain.hasBr [] = false := rfl
  clear hr
  go_enter Try.func27, Try.ntmps27
  go_wp2_with fail
  refine (cont_zero none 0 _).mono ?_
  rintro e w' ⟨rfl, hw⟩
  subst hw
  go_wp2
  go_end0
  exact ⟨rfl, rfl⟩

set_option maxHeartbeats 400000 in
theorem key27_emp (g n k gr gy : Nat) (hk : k ≤ n) (hn : n ≤ 1048576) (w : World) (hr : Rd w gr gy (.slice (some ⟨g, 0, none⟩) n n)) :
    Calls Try.prog 27 #[.pointer (some ⟨gr, 0, none⟩), .int .i64 k, .int .i64 k] w fun e w' => e = .returned (.tuple #[]) ∧ w' = w := by
  have h0 := hr.doc
  have h8 := hr.yaml
  have hb : Plain.hasBr [] = false := rfl
  have hkk : k - k = 0 := Nat.sub_self k
  clear hr
  by_cases hnk : n = k
  · subst hnk
    go_enter Try.func27, Try.ntmps27
    go_wp2_with fail
    refine (cont_zero _ _ _).mono ?_
    rintro e w' ⟨rfl, hw⟩
    subst hw
    go_wp2
    go_end0
    exact ⟨rfl, rfl⟩
  · go_enter Try.func27, Try.ntmps27
    go_wp2_with fail
    refine (cont_zero _ _ _).mono ?_
    rintro e w' ⟨rfl, hw⟩
    subst hw
    go_wp2
    go_end0
    exact ⟨rfl, rfl⟩

/-- A document of the bytes l: nil, or a whole block. -/
def Doc (w : World) (v : Value) (l : List UInt8) : Prop := (v = .slice none 0 0 ∧ l = []) ∨ ∃ g, v = .slice (some ⟨g, 0, none⟩) l.length l.length ∧ Bytes w g l

theorem Doc.below {w w' : World} {v : Value} {l : List UInt8} (h : Doc w v l) (hb : Below w.heap.size w w') : Doc w' v l := by
  rcases h with h | ⟨g, h1, h2⟩
  · exact .inl h
  · exact .inr ⟨g, h1, h2.below hb h2.lt⟩

/-- The bytes from k to c. -/
def span (l : List UInt8) (k c : Nat) : List UInt8 := (l.drop k).take (c - k)

theorem span_len (l : List UInt8) (k c : Nat) (hc : c ≤ l.length) : (span l k c).length = c - k := by
  unfold span
  rw [List.length_take, List.length_drop]
  omega

theorem noteOf_emp : noteOf [] = none := rfl

theorem rc_small (l : List UInt8) (h : l.length ≤ 1024) : ¬ 1024 < Plain.rc l 0 := by
  have := (Plain.rc_bounds l).1
  omega

/-- noteKeyForYAML, whatever the document. -/
theorem key27 (v : Value) (l : List UInt8) (k c gr gy : Nat) (hk : k ≤ c) (hc : c ≤ l.length) (hn : l.length ≤ 1048576) (w : World) (hd : Doc w v l) (hr : Rd w gr gy v) :
    Calls Try.prog 27 #[.pointer (some ⟨gr, 0, none⟩), .int .i64 k, .int .i64 c] w fun e w' => e = .returned (.tuple #[]) ∧ NoteIs w' gy k (noteOf (span l k c)) ∧ w.grownBy w' (some gy) := by
  by_cases hkc : k = c
  · subst hkc
    have e0 : noteOf (span l k k) = none := by
      have : span l k k = [] := List.eq_nil_of_length_eq_zero (by rw [span_len l k k hc]; omega)
      rw [this]; rfl
    rw [e0]
    rcases hd with ⟨rfl, rfl⟩ | ⟨g, rfl, hb⟩
    · have : k = 0 := by simpa using hc
      subst this
      exact (key27_nil gr gy w hr).mono fun e w' ⟨h1, h2⟩ => ⟨h1, by subst h2; exact hr.notes, by subst h2; exact grown_below (Below.refl _ _)⟩
    · exact (key27_emp g l.length k gr gy hc hn w hr).mono fun e w' ⟨h1, h2⟩ => ⟨h1, by subst h2; exact hr.notes, by subst h2; exact grown_below (Below.refl _ _)⟩
  · rcases hd with ⟨rfl, rfl⟩ | ⟨g, rfl, hb⟩
    · simp at hc; omega
    · have hl := span_len l k c hc
      have hcell : ∀ j (hj : j < (span l k c).length), w.cell? ⟨g, k + j, none⟩ = some (.int .u8 ((span l k c)[j]).toNat) := by
        intro j hj
        rw [hb.cell (k + j) (by omega)]
        simp [span]
      have hlt : k < c := by omega
      by_cases h1 : Plain.hasBr (span l k c) = true
      · have e0 : noteOf (span l k c) = some later := by rw [noteOf, if_pos h1]
        rw [e0]
        exact key27_brk g l.length k c gr gy _ hl hlt hc hn w hr hcell h1
      · have h1' : Plain.hasBr (span l k c) = false := by simpa using h1
        by_cases h2 : c - k ≤ 1024
        · have e0 : noteOf (span l k c) = none := by rw [noteOf, if_neg h1, if_neg (rc_small _ (by omega))]
          rw [e0]
          exact (key27_short g l.length k c gr gy _ hl hlt hc hn w hr hcell h1' h2).mono fun e w' ⟨h1, h2⟩ => ⟨h1, by subst h2; exact hr.notes, by subst h2; exact grown_below (Below.refl _ _)⟩
        · by_cases h3 : 1024 < Plain.rc (span l k c) 0
          · have e0 : noteOf (span l k c) = some longK := by rw [noteOf, if_neg h1, if_pos h3]
            rw [e0]
            exact key27_many g l.length k c gr gy _ hl hlt hc hn w hr hcell h1' (by omega) h3
          · have e0 : noteOf (span l k c) = none := by rw [noteOf, if_neg h1, if_neg h3]
            rw [e0]
            exact (key27_few g l.length k c gr gy _ hl hlt hc hn w hr hcell h1' (by omega) (by omega)).mono fun e w' ⟨h1, h2⟩ => ⟨h1, (hr.below h2).notes, grown_below h2⟩

/-- The world in which the reader lies. -/
theorem rd_made (w : World) (v : Value) : Rd ((w.alloc (.cells #[.slice none 0 0] 57)).alloc (.cells #[v, .slice none 0 0, .int .i64 0, .pointer none, .pointer none, .bool false, .int .i64 0, .nilIface, .pointer (some ⟨w.heap.size, 0, none⟩), .pointer none] 63)) (w.heap.size + 1) w.heap.size v := by
  constructor <;> simp

set_option maxHeartbeats 400000 in
theorem key9 (v : Value) (l : List UInt8) (k c : Nat) (hk : k ≤ c) (hc : c ≤ l.length) (hn : l.length ≤ 1048576) (w : World) (hd : Doc w v l) :
    Calls Try.prog 9 #[v, .int .i64 k, .int .i64 c] w fun e w' => e = .returned (.pointer (some ⟨w.heap.size, 0, none⟩)) ∧ NoteIs w' w.heap.size k (noteOf (span l k c)) ∧ Below w.heap.size w w' := by
  have HD := hide hd
  obtain ⟨ao, hv⟩ : ∃ ao, v = .slice ao l.length l.length := by
    rcases hd with ⟨rfl, rfl⟩ | ⟨g, rfl, _⟩
    · exact ⟨none, rfl⟩
    · exact ⟨_, rfl⟩
  subst hv
  clear hd
  go_enter Try.func9, Try.ntmps9
  go_wp2_with fail
  have hb0 : Below w.heap.size w (w.alloc (.cells #[.slice none 0 0] 57)) := mk_below _ _
  have hb1 := hb0.alloc hb0.size (.cells #[.slice ao l.length l.length, .slice none 0 0, .int .i64 0, .pointer none, .pointer none, .bool false, .int .i64 0, .nilIface, .pointer (some ⟨w.heap.size, 0, none⟩), .pointer none] 63)
  refine (key27 (.slice ao l.length l.length) l k c (w.heap.size + 1) w.heap.size hk hc hn _ ((unhide HD).below hb1) (rd_made w _)).mono ?_
  rintro e W1 ⟨rfl, hN, hG⟩
  have h8 : W1.cell? ⟨w.heap.size + 1, 8, none⟩ = some (.pointer (some ⟨w.heap.size, 0, none⟩)) := by
    refine hG.cell (rd_made w _).yaml ?_
    simp
  have hB : Below w.heap.size w W1 := hb1.trans ⟨hG.os, hG.tape, hG.output, hG.size, fun k hk => hG.block k (by simp; omega) (by simp; omega)⟩
  have HN := hide hN
  have HB := hide hB
  clear hN hG hB hb0 hb1
  go_wp2
  go_ret
  exact ⟨rfl, unhide HN, unhide HB⟩
end Go.Proofs.Qxb6615701a
