/-
  How many bytes; two trees side by side.
-/
import Derived.Test.Qxb6615701aTin
import Derived.Below
namespace Go.Proofs.Qxb6615701a
open Go Go.RowKit
set_option linter.unusedVariables false

/-- The chunks, in order. -/
def PS.all (S : PS) : List (List UInt8) := if S.st then S.fin ++ [S.cur] else []
def lens (l : List (List UInt8)) : Nat := (l.map List.length).sum
def PS.wf (S : PS) : Prop := S.st = false → S.fin = [] ∧ S.cur = []

theorem lens_append (l m : List (List UInt8)) : lens (l ++ m) = lens l + lens m := by simp [lens]
theorem lens_one (l : List UInt8) : lens [l] = l.length := by simp [lens]
theorem lens_take (l : List (List UInt8)) (i : Nat) : lens (l.take i) ≤ lens l := by
  have := lens_append (l.take i) (l.drop i)
  rw [List.take_append_drop] at this
  omega

theorem uv_len (z : Int) : 1 ≤ (Lib.uvarint (w64 z)).length ∧ (Lib.uvarint (w64 z)).length ≤ 10 := ⟨Lib.uvarint_pos _, Lib.uvarint_length64 (w64_lt z)⟩
theorem longBytes_len (la ld : Int) (n : Nd) : 3 ≤ (longBytes la ld n).length ∧ (longBytes la ld n).length ≤ 31 := by
  have h1 := uv_len (n.a - la)
  have h2 := uv_len (n.e - n.s)
  have h3 := uv_len (n.s - ld)
  unfold longBytes
  cases n.dec <;> simp only [if_true, List.length_append, List.length_singleton, List.length_nil, Bool.false_eq_true, if_false] <;> omega

theorem next_wf (S : PS) (h : S.wf) : S.next.st = true ∧ lens S.next.all = lens S.all := by
  refine ⟨rfl, ?_⟩
  cases hs : S.st
  · obtain ⟨h1, h2⟩ := h hs
    simp [PS.all, PS.next, hs, lens]
  · simp [PS.all, PS.next, hs, lens]

theorem avail_wf (S : PS) (cs : Nat) (h : S.wf) : (S.avail cs).st = true ∧ lens (S.avail cs).all = lens S.all := by
  unfold PS.avail
  split
  · exact next_wf S h
  · rename_i hr
    refine ⟨?_, rfl⟩
    cases hs : S.st
    · exfalso; apply hr; simp [PS.room, hs]
    · rfl

theorem enc1_len (cs : Nat) (S : PS) (n : Nd) (h : S.wf) : (PS.enc1 cs S n).st = true ∧ lens S.all + 3 ≤ lens (PS.enc1 cs S n).all ∧ lens (PS.enc1 cs S n).all ≤ lens S.all + 31 := by
  unfold PS.enc1
  split
  · rename_i hf
    have hst : S.st = true := by
      cases hs : S.st
      · have := hf.2.2; simp [PS.room, hs] at this
      · rfl
    refine ⟨hst, ?_, ?_⟩ <;> simp [PS.all, PS.short, hst, lens] <;> omega
  · have ha := avail_wf S cs h
    have hl := longBytes_len S.la S.ld n
    have e : lens (S.long cs n).all = lens (S.avail cs).all + (longBytes S.la S.ld n).length := by
      simp [PS.all, PS.long, ha.1, lens]
      omega
    refine ⟨ha.1, ?_, ?_⟩ <;> rw [e, ha.2] <;> omega

theorem foldl_len (cs : Nat) : ∀ (L : List Nd) (S : PS), S.wf → (L.foldl (PS.enc1 cs) S).wf ∧ lens S.all + 3 * L.length ≤ lens (L.foldl (PS.enc1 cs) S).all ∧ lens (L.foldl (PS.enc1 cs) S).all ≤ lens S.all + 31 * L.length
  | [], S, h => ⟨h, by simp, by simp⟩
  | n :: r, S, h => by
    obtain ⟨h1, h2, h3⟩ := enc1_len cs S n h
    obtain ⟨k1, k2, k3⟩ := foldl_len cs r (PS.enc1 cs S n) (fun hf => by rw [h1] at hf; cases hf)
    rw [List.foldl_cons, List.length_cons]
    exact ⟨k1, by omega, by omega⟩

/-- All nodes encoded: between 3 and 31 bytes a node. -/
theorem enc_len (cs : Nat) (L : List Nd) : 3 * L.length ≤ lens (L.foldl (PS.enc1 cs) PS.init).all ∧ lens (L.foldl (PS.enc1 cs) PS.init).all ≤ 31 * L.length := by
  have h := foldl_len cs L PS.init (fun _ => ⟨rfl, rfl⟩)
  have h0 : lens PS.init.all = 0 := rfl
  omega
theorem all_len (S : PS) : S.used = (S.all.length : Int) := by
  unfold PS.used PS.all
  cases S.st <;> simp

theorem Touch.below {w w' : World} (h : Touch w w' (fun _ => False)) : Below w.heap.size w w' := by
  refine ⟨h.os, h.tape, h.output, h.size, fun k hk => h.block k hk (fun h => h)⟩

/-- Two trees side by side, both newer than w0. -/
structure Two (w0 w : World) (gtA gbA : Nat) (fpA : List Nat) (gtB gbB : Nat) (fpB : List Nat) : Prop where
  touch : Touch w0 w (fun _ => False)
  farA : ∀ k, (k = gtA ∨ k = gbA ∨ k ∈ fpA) → w0.heap.size ≤ k ∧ k < w.heap.size
  farB : ∀ k, (k = gtB ∨ k = gbB ∨ k ∈ fpB) → w0.heap.size ≤ k ∧ k < w.heap.size
  apart : ∀ k, (k = gtA ∨ k = gbA ∨ k ∈ fpA) → ¬ (k = gtB ∨ k = gbB ∨ k ∈ fpB)

theorem Two.swap {w0 w : World} {gtA gbA gtB gbB : Nat} {fpA fpB : List Nat} (h : Two w0 w gtA gbA fpA gtB gbB fpB) : Two w0 w gtB gbB fpB gtA gbA fpA :=
  ⟨h.touch, h.farB, h.farA, fun k h1 h2 => h.apart k h2 h1⟩

theorem Two.step {w0 w w' : World} {gtA gbA gtB gbB : Nat} {fpA fpA' fpB : List Nat} (h : Two w0 w gtA gbA fpA gtB gbB fpB) (s : StepB w w' gtA gbA fpA fpA') (hlt : ∀ k ∈ fpA', k < w'.heap.size) : Two w0 w' gtA gbA fpA' gtB gbB fpB := by
  have hsz := s.touch.size
  refine ⟨h.touch.trans s.touch (fun i hi hk => absurd (h.farA i hk).1 (by omega)), ?_, fun k hk => ⟨(h.farB k hk).1, by have := (h.farB k hk).2; omega⟩, ?_⟩
  · rintro k (hk | hk | hk)
    · have := h.farA k (.inl hk); omega
    · have := h.farA k (.inr (.inl hk)); omega
    · refine ⟨?_, hlt k hk⟩
      rcases s.fresh k hk with h1 | h1
      · exact (h.farA k (.inr (.inr h1))).1
      · have := h.touch.size; omega
  · rintro k (hk | hk | hk) hB
    · exact h.apart k (.inl hk) hB
    · exact h.apart k (.inr (.inl hk)) hB
    · rcases s.fresh k hk with h1 | h1
      · exact h.apart k (.inr (.inr h1)) hB
      · have := (h.farB k hB).2; omega

theorem Two.more {w0 w w' : World} {gtA gbA gtB gbB : Nat} {fpA fpB : List Nat} (h : Two w0 w gtA gbA fpA gtB gbB fpB) (s : Touch w w' (fun _ => False)) : Two w0 w' gtA gbA fpA gtB gbB fpB :=
  ⟨h.touch.trans s (fun _ _ h => h), fun k hk => ⟨(h.farA k hk).1, by have := (h.farA k hk).2; have := s.size; omega⟩, fun k hk => ⟨(h.farB k hk).1, by have := (h.farB k hk).2; have := s.size; omega⟩, h.apart⟩

theorem Two.otherTree {w0 w w' : World} {gtA gbA gtB gbB cs room : Nat} {fpA fpA' fpB : List Nat} {L : List Nd} (h : Two w0 w gtA gbA fpA gtB gbB fpB) (s : StepB w w' gtA gbA fpA fpA') (t : Tree w gtB gbB cs room L fpB) : Tree w' gtB gbB cs room L fpB :=
  t.touch s.touch (fun hk => h.apart _ hk (.inl rfl)) (fun hk => h.apart _ hk (.inr (.inl rfl))) (fun k hB hk => h.apart _ hk (.inr (.inr hB)))
theorem Done.touch {w w' : World} {F : Nat → Prop} {gt gb cs room : Nat} {L : List Nd} {fp : List Nat} (h : Done w gt gb cs room L fp) (ht : Touch w w' F) (h1 : ¬ F gt) (h2 : ¬ F gb) (h3 : ∀ k ∈ fp, ¬ F k) : Done w' gt gb cs room L fp := TM.touch h ht h1 h2 h3
theorem Two.otherDone {w0 w w' : World} {gtA gbA gtB gbB cs room : Nat} {fpA fpA' fpB : List Nat} {L : List Nd} (h : Two w0 w gtA gbA fpA gtB gbB fpB) (s : StepB w w' gtA gbA fpA fpA') (t : Done w gtB gbB cs room L fpB) : Done w' gtB gbB cs room L fpB :=
  t.touch s.touch (fun hk => h.apart _ hk (.inl rfl)) (fun hk => h.apart _ hk (.inr (.inl rfl))) (fun k hB hk => h.apart _ hk (.inr (.inr hB)))
end Go.Proofs.Qxb6615701a
