/-
  No cell of these rows narrows 'for every input' (looked for: loops, veiled, ifaces, maps, wideKeys, modest, calm, conditions, laid).
  DERIVED. THE GIVEN ROWS OF THIS SEAT. 4 by the template 'for every input the law returns true; each argument reads behind the call as it read before'; 0 by the template 'total and deterministic' (their statements: Qxb6615701aTotals.lean).
  GIVEN WITH THE SEED: the statements are not yours to turn. If you find one false, say at which input.
  Laid BY PROGRAM, IN A SANDBOX (cutbox-rows.mjs): the forced cells as the released guide's own fill.sh prints them over the translation de5f6b86ca5f2745… (all of the seat's roots in one cut). By AI agents, Wed Nov 11 2026. No macro, syntax, notation, axiom, sorry.
-/
import Derived.Test.Qxb6615701aChecked
import GoSem.Claim
import GoSem.ClaimJoined
import GoSem.ClaimMapViews
import Derived.JoinedTies
import Derived.KernelRfl
namespace Go.Proofs.Qxb6615701a
/- THE CELL 'sum', in the pinned program and in every row, IS THE sha256 OF THE DUMP (.gsa) THAT Qxb6615701aProg.lean LOADS. Nothing in Lean hashes anything: it is a label: what it is worth is what the hold of that sum in a sandbox is worth. -/
noncomputable def Try.pinned : Pinned := { name := "qxb6615701a", sum := "de5f6b86ca5f27456bebe575e214ea8edab5a07b67a7e310888e1c12e1fc5686", checked := Try.checked }
namespace Rows
def none {H : Type} : Left H := { results := [], args := [] }

/-- 'zzlaws_root_b1.FnNoteKeyForYAMLHangsOnTheKeysBytesAlone': WHATEVER THE INPUT: true; the input reads as it did. -/
def fnNoteKeyForYAMLHangsOnTheKeysBytesAloneSpec : ChangeSpec := { name := "fnNoteKeyForYAMLHangsOnTheKeysBytesAlone", fn := fun _ => fun
  | [d1, d2, d3, d4, d5] => { results := [.lit (.bool true)], args := [d1, d2, d3, d4, d5] }
  | _ => none }
def fnNoteKeyForYAMLHangsOnTheKeysBytesAloneRow : OpenClaim := { program := "qxb6615701a", sum := "de5f6b86ca5f27456bebe575e214ea8edab5a07b67a7e310888e1c12e1fc5686", func := "example.com/ruth/ruth/zzlaws_root_b1.FnNoteKeyForYAMLHangsOnTheKeysBytesAlone", spec := "fnNoteKeyForYAMLHangsOnTheKeysBytesAlone", unfollowed := true, recurses := true, apart := false }
def FnNoteKeyForYAMLHangsOnTheKeysBytesAloneSaid : Prop := fnNoteKeyForYAMLHangsOnTheKeysBytesAloneRow.holds Try.pinned (OpenSpec.ofChange fnNoteKeyForYAMLHangsOnTheKeysBytesAloneSpec)

/-- ITS FALSE NEIGHBOUR: 'it returns false'. Refute it at one input. -/
def fnNoteKeyForYAMLHangsOnTheKeysBytesAloneWrong : ChangeSpec := { name := "fnNoteKeyForYAMLHangsOnTheKeysBytesAlone", fn := fun _ => fun
  | [d1, d2, d3, d4, d5] => { results := [.lit (.bool false)], args := [d1, d2, d3, d4, d5] }
  | _ => none }
def FnNoteKeyForYAMLHangsOnTheKeysBytesAloneWrongFalsely : Prop := fnNoteKeyForYAMLHangsOnTheKeysBytesAloneRow.holds Try.pinned (OpenSpec.ofChange fnNoteKeyForYAMLHangsOnTheKeysBytesAloneWrong)

/-- 'zzlaws_root_b1.FnNoteKeyForYAMLKeepsALineBreakAsTheColonMovesOn': WHATEVER THE INPUT: true; the input reads as it did. -/
def fnNoteKeyForYAMLKeepsALineBreakAsTheColonMovesOnSpec : ChangeSpec := { name := "fnNoteKeyForYAMLKeepsALineBreakAsTheColonMovesOn", fn := fun _ => fun
  | [d1, d2, d3, d4] => { results := [.lit (.bool true)], args := [d1, d2, d3, d4] }
  | _ => none }
def fnNoteKeyForYAMLKeepsALineBreakAsTheColonMovesOnRow : OpenClaim := { program := "qxb6615701a", sum := "de5f6b86ca5f27456bebe575e214ea8edab5a07b67a7e310888e1c12e1fc5686", func := "example.com/ruth/ruth/zzlaws_root_b1.FnNoteKeyForYAMLKeepsALineBreakAsTheColonMovesOn", spec := "fnNoteKeyForYAMLKeepsALineBreakAsTheColonMovesOn", unfollowed := true, recurses := true, apart := false }
def FnNoteKeyForYAMLKeepsALineBreakAsTheColonMovesOnSaid : Prop := fnNoteKeyForYAMLKeepsALineBreakAsTheColonMovesOnRow.holds Try.pinned (OpenSpec.ofChange fnNoteKeyForYAMLKeepsALineBreakAsTheColonMovesOnSpec)

/-- ITS FALSE NEIGHBOUR: 'it returns false'. Refute it at one input. -/
def fnNoteKeyForYAMLKeepsALineBreakAsTheColonMovesOnWrong : ChangeSpec := { name := "fnNoteKeyForYAMLKeepsALineBreakAsTheColonMovesOn", fn := fun _ => fun
  | [d1, d2, d3, d4] => { results := [.lit (.bool false)], args := [d1, d2, d3, d4] }
  | _ => none }
def FnNoteKeyForYAMLKeepsALineBreakAsTheColonMovesOnWrongFalsely : Prop := fnNoteKeyForYAMLKeepsALineBreakAsTheColonMovesOnRow.holds Try.pinned (OpenSpec.ofChange fnNoteKeyForYAMLKeepsALineBreakAsTheColonMovesOnWrong)

/-- 'zzlaws_root_b1.FnTreeAddGivesBackEveryNodeInOrder': WHATEVER THE INPUT: true; the input reads as it did. -/
def fnTreeAddGivesBackEveryNodeInOrderSpec : ChangeSpec := { name := "fnTreeAddGivesBackEveryNodeInOrder", fn := fun _ => fun
  | [d1, d2, d3] => { results := [.lit (.bool true)], args := [d1, d2, d3] }
  | _ => none }
def fnTreeAddGivesBackEveryNodeInOrderRow : OpenClaim := { program := "qxb6615701a", sum := "de5f6b86ca5f27456bebe575e214ea8edab5a07b67a7e310888e1c12e1fc5686", func := "example.com/ruth/ruth/zzlaws_root_b1.FnTreeAddGivesBackEveryNodeInOrder", spec := "fnTreeAddGivesBackEveryNodeInOrder", apart := false }
def FnTreeAddGivesBackEveryNodeInOrderSaid : Prop := fnTreeAddGivesBackEveryNodeInOrderRow.holds Try.pinned (OpenSpec.ofChange fnTreeAddGivesBackEveryNodeInOrderSpec)

/-- ITS FALSE NEIGHBOUR: 'it returns false'. Refute it at one input. -/
def fnTreeAddGivesBackEveryNodeInOrderWrong : ChangeSpec := { name := "fnTreeAddGivesBackEveryNodeInOrder", fn := fun _ => fun
  | [d1, d2, d3] => { results := [.lit (.bool false)], args := [d1, d2, d3] }
  | _ => none }
def FnTreeAddGivesBackEveryNodeInOrderWrongFalsely : Prop := fnTreeAddGivesBackEveryNodeInOrderRow.holds Try.pinned (OpenSpec.ofChange fnTreeAddGivesBackEveryNodeInOrderWrong)

/-- 'zzlaws_root_b1.FnTreeAddWritesTheSameBytesWhateverTheBatchRoom': WHATEVER THE INPUT: true; the input reads as it did. -/
def fnTreeAddWritesTheSameBytesWhateverTheBatchRoomSpec : ChangeSpec := { name := "fnTreeAddWritesTheSameBytesWhateverTheBatchRoom", fn := fun _ => fun
  | [d1, d2, d3, d4] => { results := [.lit (.bool true)], args := [d1, d2, d3, d4] }
  | _ => none }
def fnTreeAddWritesTheSameBytesWhateverTheBatchRoomRow : OpenClaim := { program := "qxb6615701a", sum := "de5f6b86ca5f27456bebe575e214ea8edab5a07b67a7e310888e1c12e1fc5686", func := "example.com/ruth/ruth/zzlaws_root_b1.FnTreeAddWritesTheSameBytesWhateverTheBatchRoom", spec := "fnTreeAddWritesTheSameBytesWhateverTheBatchRoom", apart := false }
def FnTreeAddWritesTheSameBytesWhateverTheBatchRoomSaid : Prop := fnTreeAddWritesTheSameBytesWhateverTheBatchRoomRow.holds Try.pinned (OpenSpec.ofChange fnTreeAddWritesTheSameBytesWhateverTheBatchRoomSpec)

/-- ITS FALSE NEIGHBOUR: 'it returns false'. Refute it at one input. -/
def fnTreeAddWritesTheSameBytesWhateverTheBatchRoomWrong : ChangeSpec := { name := "fnTreeAddWritesTheSameBytesWhateverTheBatchRoom", fn := fun _ => fun
  | [d1, d2, d3, d4] => { results := [.lit (.bool false)], args := [d1, d2, d3, d4] }
  | _ => none }
def FnTreeAddWritesTheSameBytesWhateverTheBatchRoomWrongFalsely : Prop := fnTreeAddWritesTheSameBytesWhateverTheBatchRoomRow.holds Try.pinned (OpenSpec.ofChange fnTreeAddWritesTheSameBytesWhateverTheBatchRoomWrong)

end Rows
end Go.Proofs.Qxb6615701a
