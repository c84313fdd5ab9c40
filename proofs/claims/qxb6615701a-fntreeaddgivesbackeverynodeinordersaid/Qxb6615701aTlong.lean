/-
  encodeLong (37).
-/
import Derived.Test.Qxb6615701aTwt
namespace Go.Proofs.Qxb6615701a
open Go Go.RowKit
set_option linter.unusedVariables false

/-- A node in memory, from cell o of block gb on. -/
def NodeAt (w : World) (gb o : Nat) (n : Nd) : Prop :=
  w.cell? ⟨gb, o, none⟩ = some (.int .u8 (n.k : Int)) ∧ w.cell? ⟨gb, o + 1, none⟩ = some (.bool n.dec) ∧ w.cell? ⟨gb, o + 2, none⟩ = some (.int .i64 n.a) ∧ w.cell? ⟨gb, o + 3, none⟩ = some (.int .i64 n.s) ∧ w.cell? ⟨gb, o + 4, none⟩ = some (.int .i64 n.e)

theorem NodeAt.touch {w w' : World} {F : Nat → Prop} {gb o : Nat} {n : Nd} (h : NodeAt w gb o n) (ht : Touch w w' F) (hF : ¬ F gb) : NodeAt w' gb o n :=
  ⟨ht.cell h.1 hF, ht.cell h.2.1 hF, ht.cell h.2.2.1 hF, ht.cell h.2.2.2.1 hF, ht.cell h.2.2.2.2 hF⟩
theorem NodeAt.lt {w : World} {gb o : Nat} {n : Nd} (h : NodeAt w gb o n) : gb < w.heap.size := World.block_lt_of_cell? w _ h.1

/-- A node that may be added. -/
def Nd.ok (n : Nd) : Prop := n.k ≤ 4 ∧ n.e ≠ -1 ∧ (-9223372036854775808 ≤ n.a ∧ n.a ≤ 9223372036854775807) ∧ (-9223372036854775808 ≤ n.s ∧ n.s ≤ 9223372036854775807) ∧ (-9223372036854775808 ≤ n.e ∧ n.e ≤ 9223372036854775807)

def w64 (z : Int) : Nat := (z % 18446744073709551616).toNat
theorem w64_lt (z : Int) : w64 z < 18446744073709551616 := by unfold w64; omega
theorem w64_walk (z : Int) : IntKind.u64.wrap (wrap64 z) = ((w64 z : Nat) : Int) := by
  have e : IntKind.u64.wrap (wrap64 z) = (wrap64 z) % 18446744073709551616 := by rw [IntKind.wrap_u64]
  rw [e]
  unfold w64 wrap64
  omega

def Nd.hdr (n : Nd) : Nat := n.k * 2 + 16 + (if n.dec then 32 else if n.a < n.s then 1 else 0)
def longBytes (la ld : Int) (n : Nd) : List UInt8 := [n.hdr.toUInt8] ++ Lib.uvarint (w64 (n.a - la)) ++ (if n.dec then Lib.uvarint (w64 (n.s - ld)) else []) ++ Lib.uvarint (w64 (n.e - n.s))
def PS.long (S : PS) (cs : Nat) (n : Nd) : PS := { (S.avail cs) with cur := (S.avail cs).cur ++ longBytes S.la S.ld n, la := n.a, ld := if n.dec then n.e else S.ld }

theorem avail_la (S : PS) (cs : Nat) : (S.avail cs).la = S.la := by unfold PS.avail; split <;> rfl
theorem avail_ld (S : PS) (cs : Nat) : (S.avail cs).ld = S.ld := by unfold PS.avail; split <;> rfl

theorem Row.writing {w : World} {S : PS} {cs : Nat} {v5 : Value} {gl n : Nat} {fp : List Nat} (h : Row w S cs v5 (chV gl n cs) fp) : gl ∈ fp ∧ Ch w gl cs S.cur ∧ n = S.cur.length := by
  rcases h with ⟨h0, h1, h2, h3, h4, h5⟩ | ⟨h0, gc, cap, gl', arr, fs, h1, h2, h3, h4, h5, h6, h7, h8, h9, h10, h11, h12⟩
  · cases h4
  · simp only [chV, Value.slice.injEq, Option.some.injEq, Addr.mk.injEq, and_true] at h2
    obtain ⟨rfl, h2⟩ := h2
    exact ⟨by simp [h11], h10, h2⟩

theorem Row.grow {w w' : World} {F : Nat → Prop} {S : PS} {cs : Nat} {v5 : Value} {gl n : Nat} {fp : List Nat} (h : Row w S cs v5 (chV gl n cs) fp) (ht : Touch w w' F) (hF : ∀ k ∈ fp, k ≠ gl → ¬ F k) {cur' : List UInt8} (hc : Ch w' gl cs cur') (la ld : Int) :
    Row w' { S with cur := cur', la := la, ld := ld } cs v5 (chV gl cur'.length cs) fp := by
  rcases h with ⟨h0, h1, h2, h3, h4, h5⟩ | ⟨h0, gc, cap, gl', arr, fs, h1, h2, h3, h4, h5, h6, h7, h8, h9, h10, h11, h12⟩
  · cases h4
  · simp only [chV, Value.slice.injEq, Option.some.injEq, Addr.mk.injEq, and_true] at h2
    obtain ⟨rfl, h2⟩ := h2
    have h12' := h12
    rw [h11] at h12'
    simp only [List.nodup_cons, List.mem_cons, not_or] at h12'
    obtain ⟨⟨n1, n2⟩, n3, n4⟩ := h12'
    refine .inr ⟨h0, gc, cap, gl, arr, fs, h1, rfl, ht.blk h3 (hF gc (by simp [h11]) n1), h4, h5, h6, h7, h8, fun p hp => (h9 p hp).touch ht (hF _ ?_ ?_), hc, h11, h12⟩
    · rw [h11]; exact List.mem_cons_of_mem _ (List.mem_cons_of_mem _ (List.mem_map_of_mem hp))
    · exact fun e => n3 (e ▸ List.mem_map_of_mem (f := (·.1)) hp)

/-- Behind the first byte: a plain form of the world. -/
theorem push_plain {w wr : World} {g cs n : Nat} {l : List UInt8} {c : Nat} {F : Nat → Prop} (o : Obj) (hn : n = l.length) (h : Ch wr g cs l) (ht : Touch w wr F) (hF : F g) (hr : l.length < cs) (hc : c < 256) :
    Ch ((wr.alloc o).setCells g n [.int .u8 (c : Int)]) g cs (l ++ [c.toUInt8]) ∧ Touch w ((wr.alloc o).setCells g n [.int .u8 (c : Int)]) F := by
  subst hn
  have e : (wr.alloc o).setCells g l.length [.int .u8 (c : Int)] = (wr.alloc o).setCell ⟨g, l.length, none⟩ (.int .u8 (c : Int)) := rfl
  rw [e]
  exact ⟨ch_push (h.alloc o) hr hc, (ht.alloc o).set g _ _ (fun _ => hF)⟩

theorem or16 (k : Nat) (hk : k ≤ 4) : bits .or .u8 ((k : Int) * 2) 16 = (k : Int) * 2 + 16 := by
  match k, hk with
  | 0, _ => decide
  | 1, _ => decide
  | 2, _ => decide
  | 3, _ => decide
  | 4, _ => decide
theorem or32 (k : Nat) (hk : k ≤ 4) : bits .or .u8 ((k : Int) * 2 + 16) 32 = (k : Int) * 2 + 48 := by
  match k, hk with
  | 0, _ => decide
  | 1, _ => decide
  | 2, _ => decide
  | 3, _ => decide
  | 4, _ => decide
theorem or1 (k : Nat) (hk : k ≤ 4) : bits .or .u8 ((k : Int) * 2 + 16) 1 = (k : Int) * 2 + 17 := by
  match k, hk with
  | 0, _ => decide
  | 1, _ => decide
  | 2, _ => decide
  | 3, _ => decide
  | 4, _ => decide
end Go.Proofs.Qxb6615701a
