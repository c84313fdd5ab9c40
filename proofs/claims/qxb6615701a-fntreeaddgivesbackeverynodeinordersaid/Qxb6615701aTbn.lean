/-
  ZZTreeBatchNode (22).
-/
import Derived.Test.Qxb6615701aTflat
namespace Go.Proofs.Qxb6615701a
open Go Go.RowKit
set_option linter.unusedVariables false

theorem results_tmp5 {fn : Func} {a b c d f : Tmp} (h : fn.results = #[.tmp a, .tmp b, .tmp c, .tmp d, .tmp f]) (tmps : Array Value) (P : Program) (w : World) :
    (results fn tmps).run P w = .ok (.tuple #[tmps.getD a undef, tmps.getD b undef, tmps.getD c undef, tmps.getD d undef, tmps.getD f undef]) w := by
  simp [results, h]

set_option maxHeartbeats 1000000 in
theorem batch_ok (gt gb cs room en : Nat) (hroom : room ≤ 65536) (bs : List Nd) (S : PS) (w : World) (fp : List Nat) (h : TM w gt gb cs room en bs S fp) (i : Nat) (hi : i < bs.length) :
    Calls Try.prog 22 #[.pointer (some ⟨gt, 0, none⟩), .int .i64 (i : Int)] w fun e w' => e = .returned (.tuple #[.int .u8 ((bs[i]).k : Int), .bool (bs[i]).dec, .int .i64 (bs[i]).a, .int .i64 (bs[i]).s, .int .i64 (bs[i]).e]) ∧ Touch w w' (fun _ => False) := by
  obtain ⟨v5, v7, tr, row, hg⟩ := h.mem
  obtain ⟨c2, c3, c5, c6, c7, c8, c10, c11⟩ := tr.cells
  obtain ⟨d0, d1, d2, d3, d4⟩ := h.node i hi
  have hle := h.le
  clear h tr row c3 c5 c6 c7 c8 c10 c11
  generalize bs[i] = n at d0 d1 d2 d3 d4 ⊢
  go_enter Try.func22, Try.ntmps22
  go_wp2_with fail
  go_quiet (fail)
  go_wp2
  (try simp only [Exit.inBlock, Exit.then])
  refine bodyPost_ret (results_tmp5 rfl _ _ _) rfl ?_
  exact ⟨rfl, ((Touch.refl _ _).alloc _).drew _⟩
end Go.Proofs.Qxb6615701a
