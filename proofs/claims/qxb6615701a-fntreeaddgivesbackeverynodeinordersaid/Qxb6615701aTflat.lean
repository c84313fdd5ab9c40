/-
  The bytes of the nodes, one after the other.
-/
import Derived.Test.Qxb6615701aTpair
namespace Go.Proofs.Qxb6615701a
open Go Go.RowKit
set_option linter.unusedVariables false

/-- The bytes that the node takes. -/
def PS.nb (cs : Nat) (S : PS) (n : Nd) : List UInt8 := if S.fits cs n then [n.hds.toUInt8, (w64 (n.a - S.la)).toUInt8, (w64 (n.e - n.s)).toUInt8] else longBytes S.la S.ld n
def bytesFrom (cs : Nat) : PS → List Nd → List UInt8
  | _, [] => []
  | S, n :: r => S.nb cs n ++ bytesFrom cs (PS.enc1 cs S n) r

theorem next_flat (S : PS) (h : S.wf) : S.next.all.flatten = S.all.flatten := by
  cases hs : S.st
  · simp [PS.all, PS.next, hs]
  · simp [PS.all, PS.next, hs]
theorem avail_flat (S : PS) (cs : Nat) (h : S.wf) : (S.avail cs).all.flatten = S.all.flatten := by
  unfold PS.avail
  split
  · exact next_flat S h
  · rfl

theorem enc1_flat (cs : Nat) (S : PS) (n : Nd) (h : S.wf) : (PS.enc1 cs S n).all.flatten = S.all.flatten ++ S.nb cs n := by
  have hst := (enc1_len cs S n h).1
  unfold PS.enc1 PS.nb at *
  split
  · rename_i hf
    rw [if_pos hf] at hst
    have hs : S.st = true := hst
    simp [PS.all, PS.short, hs]
  · rw [← avail_flat S cs h]
    have ha := avail_wf S cs h
    simp [PS.all, PS.long, ha.1]

theorem enc1_wf (cs : Nat) (S : PS) (n : Nd) (h : S.wf) : (PS.enc1 cs S n).wf := fun hf => by rw [(enc1_len cs S n h).1] at hf; cases hf
theorem enc1_la (cs : Nat) (S : PS) (n : Nd) : (PS.enc1 cs S n).la = n.a := by
  unfold PS.enc1
  split <;> rfl
theorem enc1_ld (cs : Nat) (S : PS) (n : Nd) : (PS.enc1 cs S n).ld = if n.dec then n.e else S.ld := by
  unfold PS.enc1
  split
  · rename_i hf
    rw [hf.2.1]
    rfl
  · rfl

theorem foldl_flat (cs : Nat) : ∀ (L : List Nd) (S : PS), S.wf → (L.foldl (PS.enc1 cs) S).all.flatten = S.all.flatten ++ bytesFrom cs S L
  | [], S, h => by simp [bytesFrom]
  | n :: r, S, h => by
    rw [List.foldl_cons, foldl_flat cs r _ (enc1_wf cs S n h), enc1_flat cs S n h, bytesFrom, List.append_assoc]

/-- What has been written is the nodes' bytes. -/
theorem stream_eq (cs : Nat) (L : List Nd) : (L.foldl (PS.enc1 cs) PS.init).all.flatten = bytesFrom cs PS.init L := by
  rw [foldl_flat cs L PS.init (fun _ => ⟨rfl, rfl⟩)]
  rfl
theorem lens_flat (l : List (List UInt8)) : l.flatten.length = lens l := by simp [lens, List.length_flatten]

/-- Back from a distance. -/
theorem back (la z : Int) (h : -9223372036854775808 ≤ z ∧ z ≤ 9223372036854775807) : wrap64 (la + wrap64 ((w64 (z - la) : Nat) : Int)) = z := by
  unfold wrap64 w64
  omega
theorem back_small (la z : Int) (h : -9223372036854775808 ≤ z ∧ z ≤ 9223372036854775807) (hs : w64 (z - la) < 256) : wrap64 (la + ((w64 (z - la) : Nat) : Int)) = z := by
  unfold wrap64 w64 at *
  omega
end Go.Proofs.Qxb6615701a
