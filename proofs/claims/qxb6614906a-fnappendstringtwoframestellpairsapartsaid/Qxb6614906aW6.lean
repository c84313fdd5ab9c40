/-
  The walk of FnAppendStringTwoFramesTellPairsApart (function 6).
-/
import Derived.Test.Qxb6614906aW5
namespace Go.Proofs.Qxb6614906a
open Go Go.RowKit
set_option linter.unusedVariables false

set_option maxHeartbeats 1600000 in
theorem w6_big (ao : Option Addr) (n cap : Nat) (s t u v : ByteArray) (w : World) (hn : n ≤ maxLen) (hs : s.size ≤ maxLen) (ht : t.size ≤ maxLen) (hu : u.size ≤ maxLen) (hv : v.size ≤ maxLen)
    (hbig : 131072 < n ∨ 131072 < s.size ∨ 131072 < t.size ∨ 131072 < u.size ∨ 131072 < v.size) :
    Calls Try.prog 6 #[.slice ao n cap, .string s, .string t, .string u, .string v] w fun e w' => e = .returned (.bool true) ∧ Below w.heap.size w w' := by
  unfold maxLen at hn hs ht hu hv
  by_cases h1 : 1048576 < n
  · go_enter Try.func6, Try.ntmps6
    go_wp2
    go_ret
    exact ⟨rfl, Below.refl _ _⟩
  by_cases h2 : 1048576 < s.size
  · go_enter Try.func6, Try.ntmps6
    go_wp2
    go_ret
    exact ⟨rfl, Below.refl _ _⟩
  by_cases h3 : 1048576 < n + s.size
  · go_enter Try.func6, Try.ntmps6
    go_wp2
    go_ret
    exact ⟨rfl, Below.refl _ _⟩
  by_cases h4 : 1048576 < t.size
  · go_enter Try.func6, Try.ntmps6
    go_wp2
    go_ret
    exact ⟨rfl, Below.refl _ _⟩
  by_cases h5 : 1048576 < n + s.size + t.size
  · go_enter Try.func6, Try.ntmps6
    go_wp2
    go_ret
    exact ⟨rfl, Below.refl _ _⟩
  by_cases h6 : 1048576 < u.size
  · go_enter Try.func6, Try.ntmps6
    go_wp2
    go_ret
    exact ⟨rfl, Below.refl _ _⟩
  by_cases h7 : 1048576 < n + s.size + t.size + u.size
  · go_enter Try.func6, Try.ntmps6
    go_wp2
    go_ret
    exact ⟨rfl, Below.refl _ _⟩
  by_cases h8 : 1048576 < v.size
  · go_enter Try.func6, Try.ntmps6
    go_wp2
    go_ret
    exact ⟨rfl, Below.refl _ _⟩
  by_cases h9 : 1048576 < n + s.size + t.size + u.size + v.size
  · go_enter Try.func6, Try.ntmps6
    go_wp2
    go_ret
    exact ⟨rfl, Below.refl _ _⟩
  by_cases g1 : 131072 < n
  · go_enter Try.func6, Try.ntmps6
    go_wp2
    go_ret
    exact ⟨rfl, Below.refl _ _⟩
  by_cases g2 : 131072 < s.size
  · go_enter Try.func6, Try.ntmps6
    go_wp2
    go_ret
    exact ⟨rfl, Below.refl _ _⟩
  by_cases g3 : 131072 < t.size
  · go_enter Try.func6, Try.ntmps6
    go_wp2
    go_ret
    exact ⟨rfl, Below.refl _ _⟩
  by_cases g4 : 131072 < u.size
  · go_enter Try.func6, Try.ntmps6
    go_wp2
    go_ret
    exact ⟨rfl, Below.refl _ _⟩
  · have g5 : 131072 < v.size := by omega
    go_enter Try.func6, Try.ntmps6
    go_wp2
    go_ret
    exact ⟨rfl, Below.refl _ _⟩

set_option maxHeartbeats 400000 in
theorem eq_diff (g1 g2 c1 c2 n m : Nat) (h : n ≠ m) (w : World) :
    Calls Try.prog 16 #[.slice (some ⟨g1, 0, none⟩) n c1, .slice (some ⟨g2, 0, none⟩) m c2] w fun e w' => e = .returned (.bool false) ∧ ∃ k, w' = w.drewN k := by
  have hne : ((n : Int) != (m : Int)) = true := by rw [bne_iff_ne]; omega
  clear h
  go_enter Try.func16, Try.ntmps16
  go_wp2
  go_ret
  exact ⟨rfl, 0, rfl⟩

theorem eq_any (g1 g2 c1 c2 n m : Nat) (p q : List UInt8) (hp : p.length = n) (hq : q.length = m) (hn : n ≤ 8388608) (h1 : n ≤ c1) (h2 : m ≤ c2) (w : World) (bb : Bool) (hb : bb = decide (p = q))
    (hcp : ∀ j (hj : j < p.length), w.cell? ⟨g1, j, none⟩ = some (.int .u8 (p[j]).toNat)) (hcq : ∀ j (hj : j < q.length), w.cell? ⟨g2, j, none⟩ = some (.int .u8 (q[j]).toNat)) :
    Calls Try.prog 16 #[.slice (some ⟨g1, 0, none⟩) n c1, .slice (some ⟨g2, 0, none⟩) m c2] w fun e w' => e = .returned (.bool bb) ∧ ∃ k, w' = w.drewN k := by
  subst hb
  by_cases h : n = m
  · subst h
    exact eq_same g1 g2 c1 c2 p q n hp hq hn h1 h2 w hcp hcq
  · have e : decide (p = q) = false := by
      rw [decide_eq_false_iff_not]
      intro hpq
      subst hpq
      omega
    rw [e]
    exact eq_diff g1 g2 c1 c2 n m h w

/-- The length of two frames behind l. -/
theorem frame2_len (l : List UInt8) (s t : ByteArray) : (l ++ Plain.frame s.data.toList).length + (Lib.uvarint t.size).length + t.size = l.length + (Lib.uvarint s.size).length + s.size + (Lib.uvarint t.size).length + t.size := by
  rw [frame_len]

theorem str_ne {s u : ByteArray} (h : s ≠ u) : s.data.toList ≠ u.data.toList := fun e => h (ByteArray.ext (Array.toList_inj.1 e))

theorem two_dec (l : List UInt8) (s t u v : ByteArray) : decide (l ++ Plain.frame s.data.toList ++ Plain.frame t.data.toList = l ++ Plain.frame u.data.toList ++ Plain.frame v.data.toList) = (decide (s = u) && decide (t = v)) := by
  rw [Bool.eq_iff_iff, decide_eq_true_iff, Plain.two_frames, Bool.and_eq_true, decide_eq_true_iff, decide_eq_true_iff]
  constructor
  · rintro ⟨h1, h2⟩
    exact ⟨ByteArray.ext (Array.toList_inj.1 h1), ByteArray.ext (Array.toList_inj.1 h2)⟩
  · rintro ⟨rfl, rfl⟩; exact ⟨rfl, rfl⟩
end Go.Proofs.Qxb6614906a
