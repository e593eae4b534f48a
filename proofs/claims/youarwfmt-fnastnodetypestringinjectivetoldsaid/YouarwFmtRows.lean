/-
  NARROWER THAN 'FOR EVERY INPUT', by the rows' own cells (each row's printed sentence says how): FnASTNodeTypeStringTable: laid · FnASTNodeTypeStringInjective: laid.
  DERIVED. THE GIVEN ROWS OF THIS SEAT. 2 by the template 'for every input the law returns true; each argument reads behind the call as it read before'; 0 by the template 'total and deterministic' (their statements: YouarwFmtTotals.lean).
  GIVEN WITH THE SEED: the statements are not yours to turn. If you find one false, say at which input.
  Laid BY PROGRAM, IN A SANDBOX (cutbox-rows.mjs): the forced cells as the released guide's own fill.sh prints them over the translation b83f95fadd48e85b… (all of the seat's roots in one cut). By AI agents, Wed Nov 11 2026. No macro, syntax, notation, axiom, sorry.
-/
import Derived.Test.YouarwFmtChecked
import GoSem.Claim
import GoSem.ClaimJoined
import GoSem.ClaimMapViews
import Derived.JoinedTies
import Derived.KernelRfl
namespace Go.Proofs.YouarwFmt
/- THE CELL 'sum', in the pinned program and in every row, IS THE sha256 OF THE DUMP (.gsa) THAT YouarwFmtProg.lean LOADS. Nothing in Lean hashes anything: it is a label: what it is worth is what the hold of that sum in a sandbox is worth. -/
noncomputable def Uarg.pinned : Pinned := { name := "youarwfmt", sum := "b83f95fadd48e85b983b477bd4839c608753af6c20c2322dc05f170be3b4274e", checked := Uarg.checked }
namespace Rows
def none {H : Type} : Left H := { results := [], args := [] }

/- WHAT THE LISTED PACKAGE-LEVEL VARIABLES READ AS WHEN THE CALL BEGINS. Each datum BY PROGRAM (the guide's laid-datum.mjs) off the statement by which the dump's own 'gosem.cut.vars' lays the variable. In a bare row this is a premise. The card (YouarwFmtCards.lean) ties it to the program's text. -/
def laid_github_com_jmespath_go_jmespath_astNodeType_index {H : Type} : DataW H := .agg [.lit (.int .u16 0), .lit (.int .u16 8), .lit (.int .u16 21), .lit (.int .u16 35), .lit (.int .u16 44), .lit (.int .u16 65), .lit (.int .u16 73), .lit (.int .u16 92), .lit (.int .u16 102), .lit (.int .u16 113), .lit (.int .u16 121), .lit (.int .u16 139), .lit (.int .u16 152), .lit (.int .u16 162), .lit (.int .u16 180), .lit (.int .u16 198), .lit (.int .u16 213), .lit (.int .u16 229), .lit (.int .u16 245), .lit (.int .u16 252), .lit (.int .u16 265), .lit (.int .u16 281), .lit (.int .u16 289), .lit (.int .u16 307)]

/-- 'zzlaws_root_b1.FnASTNodeTypeStringTable': WHATEVER THE INPUT: true; the input reads as it did. -/
def fnASTNodeTypeStringTableSpec : ChangeSpec := { name := "fnASTNodeTypeStringTable", vars := ["github.com/jmespath/go-jmespath._astNodeType_index"], fn := fun _ => fun
  | [d, g1] => { results := [.lit (.bool true)], args := [d], vars := [g1] }
  | _ => none }
def fnASTNodeTypeStringTableRow : OpenClaim := { program := "youarwfmt", sum := "b83f95fadd48e85b983b477bd4839c608753af6c20c2322dc05f170be3b4274e", func := "github.com/jmespath/go-jmespath/zzlaws_root_b1.FnASTNodeTypeStringTable", spec := "fnASTNodeTypeStringTable", stops := ["fmt.Sprintf, its operands' methods called"], inPlace := ["fmt.Sprintf"], unfollowed := true, recurses := true, named := ["github.com/jmespath/go-jmespath._astNodeType_index"], apart := false, laid := [("github.com/jmespath/go-jmespath._astNodeType_index", laid_github_com_jmespath_go_jmespath_astNodeType_index)] }
/-- NO THEOREM (fmt's text is open here; it may be false): for the released tool's asking of the row's closed facts alone. THE STATEMENT IS 'FnASTNodeTypeStringTableToldSaid' (YouarwFmtCards.lean). -/
def FnASTNodeTypeStringTableFormAsk : Prop := fnASTNodeTypeStringTableRow.holds Uarg.pinned (OpenSpec.ofChange fnASTNodeTypeStringTableSpec)

/-- ITS FALSE NEIGHBOUR: 'it returns false'. Refute it at one input. -/
def fnASTNodeTypeStringTableWrong : ChangeSpec := { name := "fnASTNodeTypeStringTable", vars := ["github.com/jmespath/go-jmespath._astNodeType_index"], fn := fun _ => fun
  | [d, g1] => { results := [.lit (.bool false)], args := [d], vars := [g1] }
  | _ => none }
def FnASTNodeTypeStringTableWrongFormAsk : Prop := fnASTNodeTypeStringTableRow.holds Uarg.pinned (OpenSpec.ofChange fnASTNodeTypeStringTableWrong)

/-- 'zzlaws_root_b1.FnASTNodeTypeStringInjective': WHATEVER THE INPUT: true; the input reads as it did. -/
def fnASTNodeTypeStringInjectiveSpec : ChangeSpec := { name := "fnASTNodeTypeStringInjective", vars := ["github.com/jmespath/go-jmespath._astNodeType_index"], fn := fun _ => fun
  | [d1, d2, g1] => { results := [.lit (.bool true)], args := [d1, d2], vars := [g1] }
  | _ => none }
def fnASTNodeTypeStringInjectiveRow : OpenClaim := { program := "youarwfmt", sum := "b83f95fadd48e85b983b477bd4839c608753af6c20c2322dc05f170be3b4274e", func := "github.com/jmespath/go-jmespath/zzlaws_root_b1.FnASTNodeTypeStringInjective", spec := "fnASTNodeTypeStringInjective", stops := ["fmt.Sprintf, its operands' methods called"], inPlace := ["fmt.Sprintf"], unfollowed := true, recurses := true, named := ["github.com/jmespath/go-jmespath._astNodeType_index"], apart := false, laid := [("github.com/jmespath/go-jmespath._astNodeType_index", laid_github_com_jmespath_go_jmespath_astNodeType_index)] }
/-- NO THEOREM (fmt's text is open here; it may be false): for the released tool's asking of the row's closed facts alone. THE STATEMENT IS 'FnASTNodeTypeStringInjectiveToldSaid' (YouarwFmtCards.lean). -/
def FnASTNodeTypeStringInjectiveFormAsk : Prop := fnASTNodeTypeStringInjectiveRow.holds Uarg.pinned (OpenSpec.ofChange fnASTNodeTypeStringInjectiveSpec)

/-- ITS FALSE NEIGHBOUR: 'it returns false'. Refute it at one input. -/
def fnASTNodeTypeStringInjectiveWrong : ChangeSpec := { name := "fnASTNodeTypeStringInjective", vars := ["github.com/jmespath/go-jmespath._astNodeType_index"], fn := fun _ => fun
  | [d1, d2, g1] => { results := [.lit (.bool false)], args := [d1, d2], vars := [g1] }
  | _ => none }
def FnASTNodeTypeStringInjectiveWrongFormAsk : Prop := fnASTNodeTypeStringInjectiveRow.holds Uarg.pinned (OpenSpec.ofChange fnASTNodeTypeStringInjectiveWrong)

end Rows
end Go.Proofs.YouarwFmt
