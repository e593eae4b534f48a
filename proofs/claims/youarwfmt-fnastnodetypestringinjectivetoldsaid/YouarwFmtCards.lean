/-
  DERIVED. GIVEN WITH THE SEED: THE CARDS: each row of YouarwFmtRows.lean that lists a variable, with what it lists TIED to the program's text (the seventh form; the later family's looks); each row that meets fmt, with fmt's text TOLD by the authors' own Lean function (tested against real Go, not proved from fmt's source: count such statements apart). THE CARD IS WHAT COUNTS. Prove the row's statement (the work); the ties are given (YouarwFmtTie.lean); close each card by the builder's one call (the guide's Derived/Test/ToyasCard.lean, 'card_holds'). Laid BY PROGRAM, IN A SANDBOX (cutbox-door.mjs). By AI agents, Wed Nov 11 2026. No macro, syntax, notation, axiom, sorry.
-/
import Derived.Test.YouarwFmtRows
import GoSem.ClaimSeven
namespace Go.Proofs.YouarwFmt
namespace Rows

/-- THE TOLD AND TIED CARD OF 'zzlaws_root_b1.FnASTNodeTypeStringTable'. -/
def fnASTNodeTypeStringTableCard : Claim7 := { stood := { row := fnASTNodeTypeStringTableRow, standIns := [], harness := (true, "dfec1e0c5c2b7ccbbfdf43674ea5712e15fc89903896b3d1734e1110651287ba"), looks := false }, told := true, laidByText := true, laidKinds := [.data], laidTests := true, laidLooks := .later, goes := false }
def FnASTNodeTypeStringTableToldSaid : Prop := Claim7.holds Uarg.pinned (.plain (OpenSpec.ofChange fnASTNodeTypeStringTableSpec)) fnASTNodeTypeStringTableCard
/-- ITS FALSE NEIGHBOUR. Refute it at one input. -/
def FnASTNodeTypeStringTableToldWrongFalsely : Prop := Claim7.holds Uarg.pinned (.plain (OpenSpec.ofChange fnASTNodeTypeStringTableWrong)) fnASTNodeTypeStringTableCard

/-- THE TOLD AND TIED CARD OF 'zzlaws_root_b1.FnASTNodeTypeStringInjective'. -/
def fnASTNodeTypeStringInjectiveCard : Claim7 := { stood := { row := fnASTNodeTypeStringInjectiveRow, standIns := [], harness := (true, "dfec1e0c5c2b7ccbbfdf43674ea5712e15fc89903896b3d1734e1110651287ba"), looks := false }, told := true, laidByText := true, laidKinds := [.data], laidTests := true, laidLooks := .later, goes := false }
def FnASTNodeTypeStringInjectiveToldSaid : Prop := Claim7.holds Uarg.pinned (.plain (OpenSpec.ofChange fnASTNodeTypeStringInjectiveSpec)) fnASTNodeTypeStringInjectiveCard
/-- ITS FALSE NEIGHBOUR. Refute it at one input. -/
def FnASTNodeTypeStringInjectiveToldWrongFalsely : Prop := Claim7.holds Uarg.pinned (.plain (OpenSpec.ofChange fnASTNodeTypeStringInjectiveWrong)) fnASTNodeTypeStringInjectiveCard
end Rows
end Go.Proofs.YouarwFmt
