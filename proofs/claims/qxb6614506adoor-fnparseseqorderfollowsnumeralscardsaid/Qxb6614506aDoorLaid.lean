/-
  What the listed variables give the walks of this seat: the three error variables hold interface values, the first not nil; the witness world.
-/
import Derived.Test.Qxb6614506aDoorSeq
import Derived.Test.Qxb6614506aDoorRows
import Derived.ProofKit
import Derived.LaidMore
import Derived.OpenShut
import Derived.ShutString
import Derived.Stop.LaidErr
namespace Go.Proofs.Qxb6614506aDoor
open Go.ChangeShapes Go.WideShapes Go.ChangeAt Go.RowKit

theorem own : ownKnob Tryd.prog.godebug = none := by kernel_rfl
theorem laidOut : laidOutB Tryd.prog = true := by kernel_rfl
theorem ty0 : (Tryd.prog.globals[0]?).map (·.type) = some 26 := by kernel_rfl
theorem ty1 : (Tryd.prog.globals[1]?).map (·.type) = some 26 := by kernel_rfl
theorem ty2 : (Tryd.prog.globals[2]?).map (·.type) = some 26 := by kernel_rfl
theorem cells51 : Tryd.prog.cellsOf 51 = 1 := by kernel_rfl
theorem cells9 : Tryd.prog.cellsOf 9 = 1 := by kernel_rfl

def errName : String := match (Rows.laid_strconv_ErrRange (H := Unit)) with | .iface n _ => n | _ => ""
/-- The one row of that name. -/
theorem row49 (u : TypeId) (h : Tryd.prog.typeName? 3 u = some errName) : u = 49 :=
  typeName_ptr_named (nm := "errors.errorString") (by kernel_rfl) (by kernel_rfl) (by decide) u (h.trans (congrArg some (by decide)))

theorem gl {n : String} {g k : Nat} (hg : Tryd.prog.globalNamed n = some g) (hk : Tryd.prog.globalNamed n = some k) : g = k := Option.some.inj (hg.symm.trans hk)

theorem g0 : Tryd.prog.globalNamed (Rows.fnParseSeqAppendOneByteSpec.vars.headD default) = some 0 := by kernel_rfl
theorem g1 : Tryd.prog.globalNamed "strconv.ErrSyntax" = some 1 := by kernel_rfl
theorem g2 : Tryd.prog.globalNamed "strconv.ErrRange" = some 2 := by kernel_rfl

theorem of_laid {W : World} (h : laidMetH Tryd.prog Rows.fnParseSeqAppendOneByteRow.laid W) :
    ∃ a0 e1 e2, W.var? Tryd.prog (Rows.fnParseSeqAppendOneByteSpec.vars.headD default) = some #[.iface 49 (.pointer (some a0))] ∧ Vars W 49 (.pointer (some a0)) e1 e2 := by
  rw [MakeChecks.laidMetH_plain _ _ _ (by kernel_rfl)] at h
  have hL := h.tail.tail.tail
  obtain ⟨a2, s2, hv2, _⟩ := laid_sentinel hL g2 ty2 Tryd.underlying26 row49 Tryd.underlying49 Tryd.underlying51 rfl rfl Tryd.underlying9 cells51 cells9
  obtain ⟨a1, s1, hv1, _⟩ := laid_sentinel hL.tail g1 ty1 Tryd.underlying26 row49 Tryd.underlying49 Tryd.underlying51 rfl rfl Tryd.underlying9 cells51 cells9
  obtain ⟨a0, s0, hv0, _⟩ := laid_sentinel hL.tail.tail g0 ty0 Tryd.underlying26 row49 Tryd.underlying49 Tryd.underlying51 rfl rfl Tryd.underlying9 cells51 cells9
  refine ⟨a0, .iface 49 (.pointer (some a1)), .iface 49 (.pointer (some a2)), hv0, ⟨?_, ?_, .inr ⟨_, _, rfl⟩, ?_, .inr ⟨_, _, rfl⟩⟩⟩
  · simpa using World.var?_cell g0 hv0 0
  · simpa using World.var?_cell g1 hv1 0
  · simpa using World.var?_cell g2 hv2 0

/-- The door's own heap meets the condition. -/
theorem door_met (os : Os) (args : Array Value) : laidMetH Tryd.prog Rows.fnParseSeqAppendOneByteRow.laid ((World.doorLaid Tryd.prog 81 os).forCall (fun _ _ => 0) ⟨#[], args, []⟩).memory :=
  laidMetH_of_parts3 (fuel := 8) (laidMet_of_run' 8 (by kernel_rfl) (by kernel_rfl)) (by kernel_rfl) (by kernel_rfl)

end Go.Proofs.Qxb6614506aDoor
