/-
  The walk of FnAppendStringTwoFramesTellPairsApart (function 6): the main road.
-/
import Derived.Test.Qxb6614906aW6
namespace Go.Proofs.Qxb6614906a
open Go Go.RowKit
set_option linter.unusedVariables false

theorem apps_own {B : Nat} {w w' : World} {v : Value} {l : List UInt8} {s : ByteArray} (h : Apps B w w' v l s) : w'.ownsRow B 5 1 v (l ++ Plain.frame s.data.toList).length (Lib.byteCells (l ++ Plain.frame s.data.toList)) := h.1

/-- Two frames behind l, in memory. -/
structure Two (w : World) (v : Value) (l : List UInt8) (s t : ByteArray) (g cap : Nat) : Prop where
  val : v = .slice (some ⟨g, 0, none⟩) (l.length + (Lib.uvarint s.size).length + s.size + (Lib.uvarint t.size).length + t.size) cap
  cap : l.length + (Lib.uvarint s.size).length + s.size + (Lib.uvarint t.size).length + t.size ≤ cap
  lt : g < w.heap.size
  cells : ∀ j (hj : j < (l ++ Plain.frame s.data.toList ++ Plain.frame t.data.toList).length), w.cell? ⟨g, j, none⟩ = some (.int .u8 ((l ++ Plain.frame s.data.toList ++ Plain.frame t.data.toList)[j]).toNat)

theorem two_of {B : Nat} {w w' : World} {v : Value} {l : List UInt8} {s t : ByteArray} (h : Apps B w w' v (l ++ Plain.frame s.data.toList) t) : ∃ g cap, Two w' v l s t g cap := by
  obtain ⟨g, cap, h1, h2, h3⟩ := app_has h
  rw [frame2_len] at h1 h2
  have hp := Lib.uvarint_pos t.size
  have hl := frame_len (l ++ Plain.frame s.data.toList) t
  exact ⟨g, cap, h1, h2, World.block_lt_of_cell? w' _ (h3 0 (by omega)), h3⟩

theorem Two.below {w w' : World} {v : Value} {l : List UInt8} {s t : ByteArray} {g cap B : Nat} (h : Two w v l s t g cap) (hb : Below B w w') (hB : g < B) (hw : w.heap.size ≤ w'.heap.size) : Two w' v l s t g cap :=
  ⟨h.val, h.cap, Nat.lt_of_lt_of_le h.lt hw, fun j hj => (hb.cell (p := ⟨g, j, none⟩) hB).trans (h.cells j hj)⟩

theorem two_len (l : List UInt8) (s t : ByteArray) : (l ++ Plain.frame s.data.toList ++ Plain.frame t.data.toList).length = l.length + (Lib.uvarint s.size).length + s.size + (Lib.uvarint t.size).length + t.size := by
  rw [frame_len, frame2_len]

/-- ZZappendString of ZZappendString, onto a slice without spare room. -/
theorem app2 (l : List UInt8) (s t : ByteArray) (hl : l.length ≤ 131072) (hs : s.size ≤ 131072) (ht : t.size ≤ 131072) (w w1 : World) (v1 : Value) (hA : Apps w.heap.size w w1 v1 l s) :
    Calls Try.prog 12 #[v1, .string t] w1 fun e w' => ∃ v', e = .returned v' ∧ (∃ g cap, Two w' v' l s t g cap) ∧ Below w.heap.size w w' := by
  have hu := Plain.uv_len_le3 (x := s.size) (by omega)
  have hlen := frame_len l s
  refine (app_own v1 (l ++ Plain.frame s.data.toList) t (by omega) (by omega) w.heap.size w1 hA.2.size hA.1).mono ?_
  rintro e w' ⟨v', rfl, h⟩
  exact ⟨v', rfl, two_of h, hA.2.trans h.2⟩

set_option maxHeartbeats 3200000 in
theorem w6_Ab (x : Addr) (l : List UInt8) (cap : Nat) (s t : ByteArray) (w : World) (hn : l.length ≤ 131072) (hcap : l.length ≤ cap) (hs : s.size ≤ 131072) (ht : t.size ≤ 131072) (hsrc : Src w x l)  :
    Calls Try.prog 6 #[.slice (some x) l.length cap, .string s, .string t, .string s, .string t] w fun e w' => e = .returned (.bool true) ∧ Below w.heap.size w w' := by
  have HS := hide hsrc
  clear hsrc
  have hus := Plain.uv_len_le3 (x := s.size) (by omega)
  have hut := Plain.uv_len_le3 (x := t.size) (by omega)
  go_enter Try.func6, Try.ntmps6
  go_wp2_with (go_at_call 15; go_in)
  refine (clone_src x cap l w (unhide HS) hcap (by omega)).mono ?_
  rintro e W1 ⟨rfl, hB1, hl1⟩
  go_wp2_with fail
  refine (clone_src ⟨w.heap.size, 0, none⟩ l.length l W1 hB1.src (Nat.le_refl _) (by omega)).mono ?_
  rintro e W2 ⟨rfl, hB2, hl2⟩
  go_wp2_with fail
  refine (clone_src ⟨w.heap.size, 0, none⟩ l.length l W2 (hB1.below hl2 hB1.lt).src (Nat.le_refl _) (by omega)).mono ?_
  rintro e W3 ⟨rfl, hB3, hl3⟩
  go_wp2_with fail
  refine (app_full _ l s (by omega) (by omega) W3 (hB2.below hl3 hB2.lt).full).mono ?_
  rintro e W4 ⟨v1, rfl, hA⟩
  go_wp2_with fail
  refine (app2 l s t hn hs ht W3 W4 v1 hA).mono ?_
  rintro e W5 ⟨vx, rfl, ⟨gx, cx, hx⟩, hl5⟩
  go_wp2_with fail
  refine (app_full _ l s (by omega) (by omega) W5 ((hB3.below hl5 hB3.lt).full)).mono ?_
  rintro e W6 ⟨v2, rfl, hA2⟩
  go_wp2_with fail
  refine (app2 l s t hn hs ht W5 W6 v2 hA2).mono ?_
  rintro e W7 ⟨vy, rfl, ⟨gy, cy, hy⟩, hl7⟩
  have hx7 := hx.below hl7 hx.lt hl7.size
  have hbel : Below w.heap.size w W7 := (((hl1.trans (hl2.mono hl1.size)).trans (hl3.mono (Nat.le_trans hl1.size hl2.size))).trans (hl5.mono (Nat.le_trans (Nat.le_trans hl1.size hl2.size) hl3.size))).trans (hl7.mono (Nat.le_trans (Nat.le_trans (Nat.le_trans hl1.size hl2.size) hl3.size) hl5.size))
  have e1 := hx7.val
  have e2 := hy.val
  have k1 := hx7.cap
  have k2 := hy.cap
  have z1 := two_len l s t
  have z2 := two_len l s t
  subst e1 e2
  have HX := hide hx7.cells
  have HY := hide hy.cells
  have Z1 := hide z1
  have Z2 := hide z2
  have HBEL := hide hbel
  clear hx7 hy hbel hA hA2 hB1 hB2 hB3 hl1 hl2 hl3 hl5 hl7 hx z1 z2
  go_wp2_with fail
  refine (eq_any gx gy cx cy _ _ _ _ (unhide Z1) (unhide Z2) (by omega) k1 k2 W7 true (by simp) (unhide HX) (unhide HY)).mono ?_
  rintro e W8 ⟨rfl, k8, rfl⟩
  go_wp2_with fail
  repeat
    refine (uvLen2 _ (by omega) _).mono ?_
    rintro e W9 ⟨rfl, rfl⟩
    go_wp2_with fail
  go_ret
  exact ⟨rfl, below_drewN (unhide HBEL) _⟩

set_option maxHeartbeats 3200000 in
theorem w6_Bb (x : Addr) (l : List UInt8) (cap : Nat) (s t v : ByteArray) (w : World) (hn : l.length ≤ 131072) (hcap : l.length ≤ cap) (hs : s.size ≤ 131072) (ht : t.size ≤ 131072) (hv : v.size ≤ 131072) (hsrc : Src w x l) (hne : t ≠ v) (hq : (t.toList == v.toList) = false) :
    Calls Try.prog 6 #[.slice (some x) l.length cap, .string s, .string t, .string s, .string v] w fun e w' => e = .returned (.bool true) ∧ Below w.heap.size w w' := by
  have HS := hide hsrc
  clear hsrc
  have hus := Plain.uv_len_le3 (x := s.size) (by omega)
  have hut := Plain.uv_len_le3 (x := t.size) (by omega)
  have huv := Plain.uv_len_le3 (x := v.size) (by omega)
  have HD : Hid (false = decide (l ++ Plain.frame s.data.toList ++ Plain.frame t.data.toList = l ++ Plain.frame s.data.toList ++ Plain.frame v.data.toList)) := by
    show _ = _
    rw [two_dec]
    rw [decide_eq_false hne]; simp
  go_enter Try.func6, Try.ntmps6
  go_wp2_with (go_at_call 15; go_in)
  refine (clone_src x cap l w (unhide HS) hcap (by omega)).mono ?_
  rintro e W1 ⟨rfl, hB1, hl1⟩
  go_wp2_with fail
  refine (clone_src ⟨w.heap.size, 0, none⟩ l.length l W1 hB1.src (Nat.le_refl _) (by omega)).mono ?_
  rintro e W2 ⟨rfl, hB2, hl2⟩
  go_wp2_with fail
  refine (clone_src ⟨w.heap.size, 0, none⟩ l.length l W2 (hB1.below hl2 hB1.lt).src (Nat.le_refl _) (by omega)).mono ?_
  rintro e W3 ⟨rfl, hB3, hl3⟩
  go_wp2_with fail
  refine (app_full _ l s (by omega) (by omega) W3 (hB2.below hl3 hB2.lt).full).mono ?_
  rintro e W4 ⟨v1, rfl, hA⟩
  go_wp2_with fail
  refine (app2 l s t hn hs ht W3 W4 v1 hA).mono ?_
  rintro e W5 ⟨vx, rfl, ⟨gx, cx, hx⟩, hl5⟩
  go_wp2_with fail
  refine (app_full _ l s (by omega) (by omega) W5 ((hB3.below hl5 hB3.lt).full)).mono ?_
  rintro e W6 ⟨v2, rfl, hA2⟩
  go_wp2_with fail
  refine (app2 l s v hn hs hv W5 W6 v2 hA2).mono ?_
  rintro e W7 ⟨vy, rfl, ⟨gy, cy, hy⟩, hl7⟩
  have hx7 := hx.below hl7 hx.lt hl7.size
  have hbel : Below w.heap.size w W7 := (((hl1.trans (hl2.mono hl1.size)).trans (hl3.mono (Nat.le_trans hl1.size hl2.size))).trans (hl5.mono (Nat.le_trans (Nat.le_trans hl1.size hl2.size) hl3.size))).trans (hl7.mono (Nat.le_trans (Nat.le_trans (Nat.le_trans hl1.size hl2.size) hl3.size) hl5.size))
  have e1 := hx7.val
  have e2 := hy.val
  have k1 := hx7.cap
  have k2 := hy.cap
  have z1 := two_len l s t
  have z2 := two_len l s v
  subst e1 e2
  have HX := hide hx7.cells
  have HY := hide hy.cells
  have Z1 := hide z1
  have Z2 := hide z2
  have HBEL := hide hbel
  clear hx7 hy hbel hA hA2 hB1 hB2 hB3 hl1 hl2 hl3 hl5 hl7 hx z1 z2
  go_wp2_with fail
  refine (eq_any gx gy cx cy _ _ _ _ (unhide Z1) (unhide Z2) (by omega) k1 k2 W7 false (unhide HD) (unhide HX) (unhide HY)).mono ?_
  rintro e W8 ⟨rfl, k8, rfl⟩
  go_wp2_with fail
  repeat
    refine (uvLen2 _ (by omega) _).mono ?_
    rintro e W9 ⟨rfl, rfl⟩
    go_wp2_with fail
  go_ret
  exact ⟨rfl, below_drewN (unhide HBEL) _⟩

set_option maxHeartbeats 3200000 in
theorem w6_Cb (x : Addr) (l : List UInt8) (cap : Nat) (s t u v : ByteArray) (w : World) (hn : l.length ≤ 131072) (hcap : l.length ≤ cap) (hs : s.size ≤ 131072) (ht : t.size ≤ 131072) (hu : u.size ≤ 131072) (hv : v.size ≤ 131072) (hsrc : Src w x l) (hne : s ≠ u) (hq : (s.toList == u.toList) = false) :
    Calls Try.prog 6 #[.slice (some x) l.length cap, .string s, .string t, .string u, .string v] w fun e w' => e = .returned (.bool true) ∧ Below w.heap.size w w' := by
  have HS := hide hsrc
  clear hsrc
  have hus := Plain.uv_len_le3 (x := s.size) (by omega)
  have hut := Plain.uv_len_le3 (x := t.size) (by omega)
  have huu := Plain.uv_len_le3 (x := u.size) (by omega)
  have huv := Plain.uv_len_le3 (x := v.size) (by omega)
  have HD : Hid (false = decide (l ++ Plain.frame s.data.toList ++ Plain.frame t.data.toList = l ++ Plain.frame u.data.toList ++ Plain.frame v.data.toList)) := by
    show _ = _
    rw [two_dec]
    rw [decide_eq_false hne]; simp
  go_enter Try.func6, Try.ntmps6
  go_wp2_with (go_at_call 15; go_in)
  refine (clone_src x cap l w (unhide HS) hcap (by omega)).mono ?_
  rintro e W1 ⟨rfl, hB1, hl1⟩
  go_wp2_with fail
  refine (clone_src ⟨w.heap.size, 0, none⟩ l.length l W1 hB1.src (Nat.le_refl _) (by omega)).mono ?_
  rintro e W2 ⟨rfl, hB2, hl2⟩
  go_wp2_with fail
  refine (clone_src ⟨w.heap.size, 0, none⟩ l.length l W2 (hB1.below hl2 hB1.lt).src (Nat.le_refl _) (by omega)).mono ?_
  rintro e W3 ⟨rfl, hB3, hl3⟩
  go_wp2_with fail
  refine (app_full _ l s (by omega) (by omega) W3 (hB2.below hl3 hB2.lt).full).mono ?_
  rintro e W4 ⟨v1, rfl, hA⟩
  go_wp2_with fail
  refine (app2 l s t hn hs ht W3 W4 v1 hA).mono ?_
  rintro e W5 ⟨vx, rfl, ⟨gx, cx, hx⟩, hl5⟩
  go_wp2_with fail
  refine (app_full _ l u (by omega) (by omega) W5 ((hB3.below hl5 hB3.lt).full)).mono ?_
  rintro e W6 ⟨v2, rfl, hA2⟩
  go_wp2_with fail
  refine (app2 l u v hn hu hv W5 W6 v2 hA2).mono ?_
  rintro e W7 ⟨vy, rfl, ⟨gy, cy, hy⟩, hl7⟩
  have hx7 := hx.below hl7 hx.lt hl7.size
  have hbel : Below w.heap.size w W7 := (((hl1.trans (hl2.mono hl1.size)).trans (hl3.mono (Nat.le_trans hl1.size hl2.size))).trans (hl5.mono (Nat.le_trans (Nat.le_trans hl1.size hl2.size) hl3.size))).trans (hl7.mono (Nat.le_trans (Nat.le_trans (Nat.le_trans hl1.size hl2.size) hl3.size) hl5.size))
  have e1 := hx7.val
  have e2 := hy.val
  have k1 := hx7.cap
  have k2 := hy.cap
  have z1 := two_len l s t
  have z2 := two_len l u v
  subst e1 e2
  have HX := hide hx7.cells
  have HY := hide hy.cells
  have Z1 := hide z1
  have Z2 := hide z2
  have HBEL := hide hbel
  clear hx7 hy hbel hA hA2 hB1 hB2 hB3 hl1 hl2 hl3 hl5 hl7 hx z1 z2
  go_wp2_with fail
  refine (eq_any gx gy cx cy _ _ _ _ (unhide Z1) (unhide Z2) (by omega) k1 k2 W7 false (unhide HD) (unhide HX) (unhide HY)).mono ?_
  rintro e W8 ⟨rfl, k8, rfl⟩
  go_wp2_with fail
  repeat
    refine (uvLen2 _ (by omega) _).mono ?_
    rintro e W9 ⟨rfl, rfl⟩
    go_wp2_with fail
  go_ret
  exact ⟨rfl, below_drewN (unhide HBEL) _⟩

set_option maxHeartbeats 3200000 in
theorem w6_An (s t : ByteArray) (w : World) (hs : s.size ≤ 131072) (ht : t.size ≤ 131072)  :
    Calls Try.prog 6 #[.slice none 0 0, .string s, .string t, .string s, .string t] w fun e w' => e = .returned (.bool true) ∧ Below w.heap.size w w' := by
  have hus := Plain.uv_len_le3 (x := s.size) (by omega)
  have hut := Plain.uv_len_le3 (x := t.size) (by omega)
  go_enter Try.func6, Try.ntmps6
  go_wp2_with (go_at_call 15; go_in)
  refine (clone_nil w).mono ?_
  rintro e W1 ⟨rfl, hW1⟩
  subst hW1
  go_wp2_with fail
  refine (clone_nil W1).mono ?_
  rintro e W2 ⟨rfl, hW2⟩
  subst hW2
  go_wp2_with fail
  refine (clone_nil W2).mono ?_
  rintro e W3 ⟨rfl, hW3⟩
  subst hW3
  go_wp2_with fail
  refine (app_full _ [] s (by simp) (by omega) W3 (.inl ⟨rfl, rfl⟩)).mono ?_
  rintro e W4 ⟨v1, rfl, hA⟩
  go_wp2_with fail
  refine (app2 [] s t (by simp) hs ht W3 W4 v1 hA).mono ?_
  rintro e W5 ⟨vx, rfl, ⟨gx, cx, hx⟩, hl5⟩
  go_wp2_with fail
  refine (app_full _ [] s (by simp) (by omega) W5 (.inl ⟨rfl, rfl⟩)).mono ?_
  rintro e W6 ⟨v2, rfl, hA2⟩
  go_wp2_with fail
  refine (app2 [] s t (by simp) hs ht W5 W6 v2 hA2).mono ?_
  rintro e W7 ⟨vy, rfl, ⟨gy, cy, hy⟩, hl7⟩
  have hx7 := hx.below hl7 hx.lt hl7.size
  have hbel : Below W3.heap.size W3 W7 := hl5.trans (hl7.mono hl5.size)
  have e1 := hx7.val
  have e2 := hy.val
  have k1 := hx7.cap
  have k2 := hy.cap
  have z1 := two_len [] s t
  have z2 := two_len [] s t
  rw [List.length_nil, Nat.zero_add] at e1 e2 k1 k2 z1 z2
  subst e1 e2
  have HX := hide hx7.cells
  have HY := hide hy.cells
  have Z1 := hide z1
  have Z2 := hide z2
  have HBEL := hide hbel
  clear hx7 hy hbel hA hA2 hl5 hl7 hx z1 z2
  go_wp2_with fail
  refine (eq_any gx gy cx cy _ _ _ _ (unhide Z1) (unhide Z2) (by omega) k1 k2 W7 true (by simp) (unhide HX) (unhide HY)).mono ?_
  rintro e W8 ⟨rfl, k8, rfl⟩
  go_wp2_with fail
  repeat
    refine (uvLen2 _ (by omega) _).mono ?_
    rintro e W9 ⟨rfl, rfl⟩
    go_wp2_with fail
  go_ret
  exact ⟨rfl, below_drewN (unhide HBEL) _⟩

set_option maxHeartbeats 3200000 in
theorem w6_Bn (s t v : ByteArray) (w : World) (hs : s.size ≤ 131072) (ht : t.size ≤ 131072) (hv : v.size ≤ 131072) (hne : t ≠ v) (hq : (t.toList == v.toList) = false) :
    Calls Try.prog 6 #[.slice none 0 0, .string s, .string t, .string s, .string v] w fun e w' => e = .returned (.bool true) ∧ Below w.heap.size w w' := by
  have hus := Plain.uv_len_le3 (x := s.size) (by omega)
  have hut := Plain.uv_len_le3 (x := t.size) (by omega)
  have huv := Plain.uv_len_le3 (x := v.size) (by omega)
  have HD : Hid (false = decide ([] ++ Plain.frame s.data.toList ++ Plain.frame t.data.toList = [] ++ Plain.frame s.data.toList ++ Plain.frame v.data.toList)) := by
    show _ = _
    rw [two_dec]
    rw [decide_eq_false hne]; simp
  go_enter Try.func6, Try.ntmps6
  go_wp2_with (go_at_call 15; go_in)
  refine (clone_nil w).mono ?_
  rintro e W1 ⟨rfl, hW1⟩
  subst hW1
  go_wp2_with fail
  refine (clone_nil W1).mono ?_
  rintro e W2 ⟨rfl, hW2⟩
  subst hW2
  go_wp2_with fail
  refine (clone_nil W2).mono ?_
  rintro e W3 ⟨rfl, hW3⟩
  subst hW3
  go_wp2_with fail
  refine (app_full _ [] s (by simp) (by omega) W3 (.inl ⟨rfl, rfl⟩)).mono ?_
  rintro e W4 ⟨v1, rfl, hA⟩
  go_wp2_with fail
  refine (app2 [] s t (by simp) hs ht W3 W4 v1 hA).mono ?_
  rintro e W5 ⟨vx, rfl, ⟨gx, cx, hx⟩, hl5⟩
  go_wp2_with fail
  refine (app_full _ [] s (by simp) (by omega) W5 (.inl ⟨rfl, rfl⟩)).mono ?_
  rintro e W6 ⟨v2, rfl, hA2⟩
  go_wp2_with fail
  refine (app2 [] s v (by simp) hs hv W5 W6 v2 hA2).mono ?_
  rintro e W7 ⟨vy, rfl, ⟨gy, cy, hy⟩, hl7⟩
  have hx7 := hx.below hl7 hx.lt hl7.size
  have hbel : Below W3.heap.size W3 W7 := hl5.trans (hl7.mono hl5.size)
  have e1 := hx7.val
  have e2 := hy.val
  have k1 := hx7.cap
  have k2 := hy.cap
  have z1 := two_len [] s t
  have z2 := two_len [] s v
  rw [List.length_nil, Nat.zero_add] at e1 e2 k1 k2 z1 z2
  subst e1 e2
  have HX := hide hx7.cells
  have HY := hide hy.cells
  have Z1 := hide z1
  have Z2 := hide z2
  have HBEL := hide hbel
  clear hx7 hy hbel hA hA2 hl5 hl7 hx z1 z2
  go_wp2_with fail
  refine (eq_any gx gy cx cy _ _ _ _ (unhide Z1) (unhide Z2) (by omega) k1 k2 W7 false (unhide HD) (unhide HX) (unhide HY)).mono ?_
  rintro e W8 ⟨rfl, k8, rfl⟩
  go_wp2_with fail
  repeat
    refine (uvLen2 _ (by omega) _).mono ?_
    rintro e W9 ⟨rfl, rfl⟩
    go_wp2_with fail
  go_ret
  exact ⟨rfl, below_drewN (unhide HBEL) _⟩

set_option maxHeartbeats 3200000 in
theorem w6_Cn (s t u v : ByteArray) (w : World) (hs : s.size ≤ 131072) (ht : t.size ≤ 131072) (hu : u.size ≤ 131072) (hv : v.size ≤ 131072) (hne : s ≠ u) (hq : (s.toList == u.toList) = false) :
    Calls Try.prog 6 #[.slice none 0 0, .string s, .string t, .string u, .string v] w fun e w' => e = .returned (.bool true) ∧ Below w.heap.size w w' := by
  have hus := Plain.uv_len_le3 (x := s.size) (by omega)
  have hut := Plain.uv_len_le3 (x := t.size) (by omega)
  have huu := Plain.uv_len_le3 (x := u.size) (by omega)
  have huv := Plain.uv_len_le3 (x := v.size) (by omega)
  have HD : Hid (false = decide ([] ++ Plain.frame s.data.toList ++ Plain.frame t.data.toList = [] ++ Plain.frame u.data.toList ++ Plain.frame v.data.toList)) := by
    show _ = _
    rw [two_dec]
    rw [decide_eq_false hne]; simp
  go_enter Try.func6, Try.ntmps6
  go_wp2_with (go_at_call 15; go_in)
  refine (clone_nil w).mono ?_
  rintro e W1 ⟨rfl, hW1⟩
  subst hW1
  go_wp2_with fail
  refine (clone_nil W1).mono ?_
  rintro e W2 ⟨rfl, hW2⟩
  subst hW2
  go_wp2_with fail
  refine (clone_nil W2).mono ?_
  rintro e W3 ⟨rfl, hW3⟩
  subst hW3
  go_wp2_with fail
  refine (app_full _ [] s (by simp) (by omega) W3 (.inl ⟨rfl, rfl⟩)).mono ?_
  rintro e W4 ⟨v1, rfl, hA⟩
  go_wp2_with fail
  refine (app2 [] s t (by simp) hs ht W3 W4 v1 hA).mono ?_
  rintro e W5 ⟨vx, rfl, ⟨gx, cx, hx⟩, hl5⟩
  go_wp2_with fail
  refine (app_full _ [] u (by simp) (by omega) W5 (.inl ⟨rfl, rfl⟩)).mono ?_
  rintro e W6 ⟨v2, rfl, hA2⟩
  go_wp2_with fail
  refine (app2 [] u v (by simp) hu hv W5 W6 v2 hA2).mono ?_
  rintro e W7 ⟨vy, rfl, ⟨gy, cy, hy⟩, hl7⟩
  have hx7 := hx.below hl7 hx.lt hl7.size
  have hbel : Below W3.heap.size W3 W7 := hl5.trans (hl7.mono hl5.size)
  have e1 := hx7.val
  have e2 := hy.val
  have k1 := hx7.cap
  have k2 := hy.cap
  have z1 := two_len [] s t
  have z2 := two_len [] u v
  rw [List.length_nil, Nat.zero_add] at e1 e2 k1 k2 z1 z2
  subst e1 e2
  have HX := hide hx7.cells
  have HY := hide hy.cells
  have Z1 := hide z1
  have Z2 := hide z2
  have HBEL := hide hbel
  clear hx7 hy hbel hA hA2 hl5 hl7 hx z1 z2
  go_wp2_with fail
  refine (eq_any gx gy cx cy _ _ _ _ (unhide Z1) (unhide Z2) (by omega) k1 k2 W7 false (unhide HD) (unhide HX) (unhide HY)).mono ?_
  rintro e W8 ⟨rfl, k8, rfl⟩
  go_wp2_with fail
  repeat
    refine (uvLen2 _ (by omega) _).mono ?_
    rintro e W9 ⟨rfl, rfl⟩
    go_wp2_with fail
  go_ret
  exact ⟨rfl, below_drewN (unhide HBEL) _⟩

end Go.Proofs.Qxb6614906a
