/-
  No cell of these rows narrows 'for every input' (looked for: loops, veiled, ifaces, maps, wideKeys, modest, calm, conditions, laid).
  DERIVED. THE GIVEN ROWS OF THIS SEAT. 4 by the template 'for every input the law returns true; each argument reads behind the call as it read before'; 0 by the template 'total and deterministic' (their statements: Qxb6614906aTotals.lean).
  GIVEN WITH THE SEED: the statements are not yours to turn. If you find one false, say at which input.
  Laid BY PROGRAM, IN A SANDBOX (cutbox-rows.mjs): the forced cells as the released guide's own fill.sh prints them over the translation 8995de9d169f617c… (all of the seat's roots in one cut). By AI agents, Wed Nov 11 2026. No macro, syntax, notation, axiom, sorry.
-/
import Derived.Test.Qxb6614906aChecked
import GoSem.Claim
import GoSem.ClaimJoined
import GoSem.ClaimMapViews
import Derived.JoinedTies
import Derived.KernelRfl
namespace Go.Proofs.Qxb6614906a
/- THE CELL 'sum', in the pinned program and in every row, IS THE sha256 OF THE DUMP (.gsa) THAT Qxb6614906aProg.lean LOADS. Nothing in Lean hashes anything: it is a label: what it is worth is what the hold of that sum in a sandbox is worth. -/
noncomputable def Try.pinned : Pinned := { name := "qxb6614906a", sum := "8995de9d169f617c066758ae877a30492ad4e261be4e078ce999946cbc54c107", checked := Try.checked }
namespace Rows
def none {H : Type} : Left H := { results := [], args := [] }

/-- 'zzlaws_internal_ledger_b1.FnIsDigitMarksExactlyTheASCIIDigitBytes': WHATEVER THE INPUT: true; the input reads as it did. -/
def fnIsDigitMarksExactlyTheASCIIDigitBytesSpec : ChangeSpec := { name := "fnIsDigitMarksExactlyTheASCIIDigitBytes", fn := fun _ => fun
  | [d] => { results := [.lit (.bool true)], args := [d] }
  | _ => none }
def fnIsDigitMarksExactlyTheASCIIDigitBytesRow : OpenClaim := { program := "qxb6614906a", sum := "8995de9d169f617c066758ae877a30492ad4e261be4e078ce999946cbc54c107", func := "example.com/apply-once/apply-once/zzlaws_internal_ledger_b1.FnIsDigitMarksExactlyTheASCIIDigitBytes", spec := "fnIsDigitMarksExactlyTheASCIIDigitBytes", apart := false }
def FnIsDigitMarksExactlyTheASCIIDigitBytesSaid : Prop := fnIsDigitMarksExactlyTheASCIIDigitBytesRow.holds Try.pinned (OpenSpec.ofChange fnIsDigitMarksExactlyTheASCIIDigitBytesSpec)

/-- ITS FALSE NEIGHBOUR: 'it returns false'. Refute it at one input. -/
def fnIsDigitMarksExactlyTheASCIIDigitBytesWrong : ChangeSpec := { name := "fnIsDigitMarksExactlyTheASCIIDigitBytes", fn := fun _ => fun
  | [d] => { results := [.lit (.bool false)], args := [d] }
  | _ => none }
def FnIsDigitMarksExactlyTheASCIIDigitBytesWrongFalsely : Prop := fnIsDigitMarksExactlyTheASCIIDigitBytesRow.holds Try.pinned (OpenSpec.ofChange fnIsDigitMarksExactlyTheASCIIDigitBytesWrong)

/-- 'zzlaws_internal_ledger_b1.FnIsDigitOneRunOfTenFromZero': WHATEVER THE INPUT: true; the input reads as it did. -/
def fnIsDigitOneRunOfTenFromZeroSpec : ChangeSpec := { name := "fnIsDigitOneRunOfTenFromZero", fn := fun _ => fun
  | [d] => { results := [.lit (.bool true)], args := [d] }
  | _ => none }
def fnIsDigitOneRunOfTenFromZeroRow : OpenClaim := { program := "qxb6614906a", sum := "8995de9d169f617c066758ae877a30492ad4e261be4e078ce999946cbc54c107", func := "example.com/apply-once/apply-once/zzlaws_internal_ledger_b1.FnIsDigitOneRunOfTenFromZero", spec := "fnIsDigitOneRunOfTenFromZero", apart := false }
def FnIsDigitOneRunOfTenFromZeroSaid : Prop := fnIsDigitOneRunOfTenFromZeroRow.holds Try.pinned (OpenSpec.ofChange fnIsDigitOneRunOfTenFromZeroSpec)

/-- ITS FALSE NEIGHBOUR: 'it returns false'. Refute it at one input. -/
def fnIsDigitOneRunOfTenFromZeroWrong : ChangeSpec := { name := "fnIsDigitOneRunOfTenFromZero", fn := fun _ => fun
  | [d] => { results := [.lit (.bool false)], args := [d] }
  | _ => none }
def FnIsDigitOneRunOfTenFromZeroWrongFalsely : Prop := fnIsDigitOneRunOfTenFromZeroRow.holds Try.pinned (OpenSpec.ofChange fnIsDigitOneRunOfTenFromZeroWrong)

/-- 'zzlaws_internal_ledger_b1.FnAppendStringWritesPrefixLengthText': WHATEVER THE INPUT: true; the input reads as it did. -/
def fnAppendStringWritesPrefixLengthTextSpec : ChangeSpec := { name := "fnAppendStringWritesPrefixLengthText", fn := fun _ => fun
  | [d1, d2] => { results := [.lit (.bool true)], args := [d1, d2] }
  | _ => none }
def fnAppendStringWritesPrefixLengthTextRow : OpenClaim := { program := "qxb6614906a", sum := "8995de9d169f617c066758ae877a30492ad4e261be4e078ce999946cbc54c107", func := "example.com/apply-once/apply-once/zzlaws_internal_ledger_b1.FnAppendStringWritesPrefixLengthText", spec := "fnAppendStringWritesPrefixLengthText", apart := false }
def FnAppendStringWritesPrefixLengthTextSaid : Prop := fnAppendStringWritesPrefixLengthTextRow.holds Try.pinned (OpenSpec.ofChange fnAppendStringWritesPrefixLengthTextSpec)

/-- ITS FALSE NEIGHBOUR: 'it returns false'. Refute it at one input. -/
def fnAppendStringWritesPrefixLengthTextWrong : ChangeSpec := { name := "fnAppendStringWritesPrefixLengthText", fn := fun _ => fun
  | [d1, d2] => { results := [.lit (.bool false)], args := [d1, d2] }
  | _ => none }
def FnAppendStringWritesPrefixLengthTextWrongFalsely : Prop := fnAppendStringWritesPrefixLengthTextRow.holds Try.pinned (OpenSpec.ofChange fnAppendStringWritesPrefixLengthTextWrong)

/-- 'zzlaws_internal_ledger_b1.FnAppendStringTwoFramesTellPairsApart': WHATEVER THE INPUT: true; the input reads as it did. -/
def fnAppendStringTwoFramesTellPairsApartSpec : ChangeSpec := { name := "fnAppendStringTwoFramesTellPairsApart", fn := fun _ => fun
  | [d1, d2, d3, d4, d5] => { results := [.lit (.bool true)], args := [d1, d2, d3, d4, d5] }
  | _ => none }
def fnAppendStringTwoFramesTellPairsApartRow : OpenClaim := { program := "qxb6614906a", sum := "8995de9d169f617c066758ae877a30492ad4e261be4e078ce999946cbc54c107", func := "example.com/apply-once/apply-once/zzlaws_internal_ledger_b1.FnAppendStringTwoFramesTellPairsApart", spec := "fnAppendStringTwoFramesTellPairsApart", apart := false }
def FnAppendStringTwoFramesTellPairsApartSaid : Prop := fnAppendStringTwoFramesTellPairsApartRow.holds Try.pinned (OpenSpec.ofChange fnAppendStringTwoFramesTellPairsApartSpec)

/-- ITS FALSE NEIGHBOUR: 'it returns false'. Refute it at one input. -/
def fnAppendStringTwoFramesTellPairsApartWrong : ChangeSpec := { name := "fnAppendStringTwoFramesTellPairsApart", fn := fun _ => fun
  | [d1, d2, d3, d4, d5] => { results := [.lit (.bool false)], args := [d1, d2, d3, d4, d5] }
  | _ => none }
def FnAppendStringTwoFramesTellPairsApartWrongFalsely : Prop := fnAppendStringTwoFramesTellPairsApartRow.holds Try.pinned (OpenSpec.ofChange fnAppendStringTwoFramesTellPairsApartWrong)

end Rows
end Go.Proofs.Qxb6614906a
