/-
  zzAddable (15), zzBytes (23, 14).
-/
import Derived.Test.Qxb6615701aTget
namespace Go.Proofs.Qxb6615701a
open Go Go.RowKit
set_option linter.unusedVariables false

/-- What zzAddable asks. -/
def Nd.addable (n : Nd) : Prop := (n.k ≤ 4 ∧ n.e ≠ -1) ∧ (n.dec = true ∨ n.s = n.a ∨ (n.a < 9223372036854775807 ∧ n.s = n.a + 1))

def AddPost (n : Nd) (w : World) (e : Ending) (w' : World) : Prop := ∃ bl : Bool, e = .returned (.bool bl) ∧ (bl = true → n.addable) ∧ Touch w w' (fun _ => False)
def RetBool (e : Ending) : Prop := ∃ bl : Bool, e = .returned (.bool bl)

set_option maxHeartbeats 1000000 in
set_option maxRecDepth 100000 in
theorem addable_ok (n : Nd) (hk : n.k < 256) (hwa : -9223372036854775808 ≤ n.a ∧ n.a ≤ 9223372036854775807) (w : World) :
    Calls Try.prog 15 #[n.val] w fun e w' => AddPost n w e w' := by
  obtain ⟨k, dec, na, ns, ne⟩ := n
  unfold Nd.val
  simp only at *
  by_cases h4 : 4 < k
  · have h4' : (4 : Int) < (k : Int) := by omega
    go_enter Try.func15, Try.ntmps15
    go_wp2
    go_ret
    exact ⟨false, rfl, (fun h => by cases h), (Touch.refl _ _).alloc _⟩
  have h4' : ¬ (4 : Int) < (k : Int) := by omega
  by_cases he : ne = -1
  · have he' : (ne == -1) = true := by simp [he]
    go_enter Try.func15, Try.ntmps15
    go_wp2
    go_ret
    exact ⟨false, rfl, (fun h => by cases h), (Touch.refl _ _).alloc _⟩
  have he' : (ne == -1) = false := by simpa using he
  cases dec with
  | true =>
    go_enter Try.func15, Try.ntmps15
    go_wp2
    go_ret
    exact ⟨true, rfl, (fun _ => ⟨⟨by simp only; omega, he⟩, .inl rfl⟩), (Touch.refl _ _).alloc _⟩
  | false =>
    by_cases hs : ns = na
    · have hs' : (ns == na) = true := by simp [hs]
      go_enter Try.func15, Try.ntmps15
      go_wp2
      go_ret
      exact ⟨true, rfl, (fun _ => ⟨⟨by simp only; omega, he⟩, .inr (.inl rfl)⟩), (Touch.refl _ _).alloc _⟩
    have hs' : (ns == na) = false := by simpa using hs
    by_cases ha : na < 9223372036854775807
    · by_cases hb : ns = na + 1
      · have hb' : (ns == na + 1) = true := by simp [hb]
        go_enter Try.func15, Try.ntmps15
        go_wp2
        go_ret
        exact ⟨true, rfl, (fun _ => ⟨⟨by simp only; omega, he⟩, .inr (.inr ⟨ha, rfl⟩)⟩), (Touch.refl _ _).alloc _⟩
      · have hb' : (ns == na + 1) = false := by simpa using hb
        go_enter Try.func15, Try.ntmps15
        go_wp2
        go_ret
        exact ⟨false, rfl, (fun h => by cases h), (Touch.refl _ _).alloc _⟩
    · go_enter Try.func15, Try.ntmps15
      go_wp2
      go_ret
      exact ⟨false, rfl, (fun h => by cases h), (Touch.refl _ _).alloc _⟩

set_option maxHeartbeats 400000 in
theorem bytes23 (a : Option Addr) (len cap : Nat) (b c d : Int) (hl : len ≤ maxLen) (w : World) :
    Calls Try.prog 23 #[.slice a len cap, .int .i64 b, .int .i64 c, .int .i64 d] w fun e w' => RetBool e ∧ w = w' := by
  have hl' : (len : Int) ≤ 9223372036854775807 := by unfold maxLen at hl; omega
  by_cases h : 1048576 < len
  · have h' : (1048576 : Int) < (len : Int) := by omega
    go_enter Try.func23, Try.ntmps23
    go_wp2
    go_ret
    exact ⟨⟨false, rfl⟩, rfl⟩
  · have h' : ¬ (1048576 : Int) < (len : Int) := by omega
    go_enter Try.func23, Try.ntmps23
    go_wp2
    go_ret
    exact ⟨⟨true, rfl⟩, rfl⟩

set_option maxHeartbeats 400000 in
theorem bytes14 (a : Option Addr) (len cap : Nat) (b c : Int) (hl : len ≤ maxLen) (w : World) :
    Calls Try.prog 14 #[.slice a len cap, .int .i64 b, .int .i64 c] w fun e w' => RetBool e ∧ w = w' := by
  have hl' : (len : Int) ≤ 9223372036854775807 := by unfold maxLen at hl; omega
  by_cases h : 1048576 < len
  · have h' : (1048576 : Int) < (len : Int) := by omega
    go_enter Try.func14, Try.ntmps14
    go_wp2
    go_ret
    exact ⟨⟨false, rfl⟩, rfl⟩
  · have h' : ¬ (1048576 : Int) < (len : Int) := by omega
    go_enter Try.func14, Try.ntmps14
    go_wp2
    go_ret
    exact ⟨⟨true, rfl⟩, rfl⟩
end Go.Proofs.Qxb6615701a
