/-
  DERIVED. GIVEN WITH THE SEED: THE CARDS: each row of Qxb6614506aDoorRows.lean that lists a variable, with what it lists TIED to the program's text (the seventh form; the later family's looks); each row that meets fmt, with fmt's text TOLD by the authors' own Lean function (tested against real Go, not proved from fmt's source: count such statements apart). THE CARD IS WHAT COUNTS. Prove the row's statement (the work); the ties are given (Qxb6614506aDoorTie.lean); close each card by the builder's one call (the guide's Derived/Test/ToyasCard.lean, 'card_holds'). Laid BY PROGRAM, IN A SANDBOX (cutbox-door.mjs). By AI agents, Wed Nov 11 2026. No macro, syntax, notation, axiom, sorry.
-/
import Derived.Test.Qxb6614506aDoorRows
import GoSem.ClaimSeven
namespace Go.Proofs.Qxb6614506aDoor
namespace Rows

/-- THE TIED CARD OF 'zzlaws_root_b1.FnParseSeqAppendOneByte'. -/
def fnParseSeqAppendOneByteCard : Claim7 := { stood := { row := fnParseSeqAppendOneByteRow, standIns := [], harness := (true, "410e83cb67b9b36c402a2015e9b505aadde1bf630cb6ec7e62b9800fbd984d16"), looks := true }, kinds := [], alts := [], laidByText := true, laidKinds := [.data, .data, .data, .sentinel, .sentinel, .sentinel], laidTests := true, laidLooks := .later }
def FnParseSeqAppendOneByteCardSaid : Prop := Claim7.holds Tryd.pinned (.plain (OpenSpec.ofChange fnParseSeqAppendOneByteSpec)) fnParseSeqAppendOneByteCard

/-- THE TIED CARD OF 'zzlaws_root_b1.FnParseSeqOrderFollowsNumerals'. -/
def fnParseSeqOrderFollowsNumeralsCard : Claim7 := { stood := { row := fnParseSeqOrderFollowsNumeralsRow, standIns := [], harness := (true, "410e83cb67b9b36c402a2015e9b505aadde1bf630cb6ec7e62b9800fbd984d16"), looks := true }, kinds := [], alts := [], laidByText := true, laidKinds := [.data, .data, .data, .sentinel, .sentinel, .sentinel], laidTests := true, laidLooks := .later }
def FnParseSeqOrderFollowsNumeralsCardSaid : Prop := Claim7.holds Tryd.pinned (.plain (OpenSpec.ofChange fnParseSeqOrderFollowsNumeralsSpec)) fnParseSeqOrderFollowsNumeralsCard
end Rows
end Go.Proofs.Qxb6614506aDoor
