/-
  NARROWER THAN 'FOR EVERY INPUT', by the rows' own cells (each row's printed sentence says how): FnPropertyNamesPrefixFree: laid · FnPropertyNameIsKebabCase: laid.
  DERIVED. THE GIVEN ROWS OF THIS SEAT. 2 by the template 'for every input the law returns true; each argument reads behind the call as it read before'; 0 by the template 'total and deterministic' (their statements: Qxb6613471aFmtTotals.lean).
  GIVEN WITH THE SEED: the statements are not yours to turn. If you find one false, say at which input.
  Laid BY PROGRAM, IN A SANDBOX (cutbox-rows.mjs): the forced cells as the released guide's own fill.sh prints them over the translation 601c3c2adc4859e0… (all of the seat's roots in one cut). By AI agents, Wed Nov 11 2026. No macro, syntax, notation, axiom, sorry.
-/
import Derived.Test.Qxb6613471aFmtChecked
import GoSem.Claim
import GoSem.ClaimJoined
import GoSem.ClaimMapViews
import Derived.JoinedTies
import Derived.KernelRfl
namespace Go.Proofs.Qxb6613471aFmt
/- THE CELL 'sum', in the pinned program and in every row, IS THE sha256 OF THE DUMP (.gsa) THAT Qxb6613471aFmtProg.lean LOADS. Nothing in Lean hashes anything: it is a label: what it is worth is what the hold of that sum in a sandbox is worth. -/
noncomputable def Tryf.pinned : Pinned := { name := "qxb6613471afmt", sum := "601c3c2adc4859e09eb43bd3881afef1a5797c1d0b6790b8d24d1a0b38b2d7c9", checked := Tryf.checked }
namespace Rows
def none {H : Type} : Left H := { results := [], args := [] }

/- WHAT THE LISTED PACKAGE-LEVEL VARIABLES READ AS WHEN THE CALL BEGINS. Each datum BY PROGRAM (the guide's laid-datum.mjs) off the statement by which the dump's own 'gosem.cut.vars' lays the variable. In a bare row this is a premise. The card (Qxb6613471aFmtCards.lean) ties it to the program's text. -/
def laid_example_com_attestra_attestra_explorer_propertyNames {H : Type} : DataW H := .agg [.lit (.string [100, 101, 97, 100, 108, 111, 99, 107, 45, 102, 114, 101, 101]), .lit (.string [115, 117, 99, 99, 101, 115, 115, 45, 114, 101, 97, 99, 104, 97, 98, 108, 101]), .lit (.string [99, 104, 97, 108, 108, 101, 110, 103, 101, 45, 97, 102, 116, 101, 114, 45, 105, 100, 101, 110, 116, 105, 116, 121]), .lit (.string [115, 117, 99, 99, 101, 115, 115, 45, 97, 102, 116, 101, 114, 45, 99, 104, 97, 108, 108, 101, 110, 103, 101]), .lit (.string [101, 118, 101, 114, 121, 45, 114, 117, 110, 45, 101, 110, 100, 115]), .lit (.string [107, 115, 101, 97, 102, 45, 115, 101, 99, 114, 101, 116]), .lit (.string [115, 117, 112, 105, 45, 115, 101, 99, 114, 101, 116]), .lit (.string [117, 101, 45, 97, 103, 114, 101, 101, 115, 45, 111, 110, 45, 115, 110, 45, 110, 97, 109, 101]), .lit (.string [115, 110, 45, 97, 103, 114, 101, 101, 115, 45, 111, 110, 45, 117, 101]), .lit (.string [111, 110, 101, 45, 118, 101, 99, 116, 111, 114, 45, 112, 101, 114, 45, 114, 101, 113, 117, 101, 115, 116])]

/-- 'zzlaws_explorer_b1.FnPropertyNamesPrefixFree': WHATEVER THE INPUT: true; the input reads as it did. -/
def fnPropertyNamesPrefixFreeSpec : ChangeSpec := { name := "fnPropertyNamesPrefixFree", vars := ["example.com/attestra/attestra/explorer.propertyNames"], fn := fun _ => fun
  | [d1, d2, g1] => { results := [.lit (.bool true)], args := [d1, d2], vars := [g1] }
  | _ => none }
def fnPropertyNamesPrefixFreeRow : OpenClaim := { program := "qxb6613471afmt", sum := "601c3c2adc4859e09eb43bd3881afef1a5797c1d0b6790b8d24d1a0b38b2d7c9", func := "example.com/attestra/attestra/zzlaws_explorer_b1.FnPropertyNamesPrefixFree", spec := "fnPropertyNamesPrefixFree", stops := ["fmt.Sprintf"], inPlace := ["fmt.Sprintf"], named := ["example.com/attestra/attestra/explorer.propertyNames"], apart := false, laid := [("example.com/attestra/attestra/explorer.propertyNames", laid_example_com_attestra_attestra_explorer_propertyNames)] }
/-- NO THEOREM (fmt's text is open here; it may be false): for the released tool's asking of the row's closed facts alone. THE STATEMENT IS 'FnPropertyNamesPrefixFreeToldSaid' (Qxb6613471aFmtCards.lean). -/
def FnPropertyNamesPrefixFreeFormAsk : Prop := fnPropertyNamesPrefixFreeRow.holds Tryf.pinned (OpenSpec.ofChange fnPropertyNamesPrefixFreeSpec)

/-- ITS FALSE NEIGHBOUR: 'it returns false'. Refute it at one input. -/
def fnPropertyNamesPrefixFreeWrong : ChangeSpec := { name := "fnPropertyNamesPrefixFree", vars := ["example.com/attestra/attestra/explorer.propertyNames"], fn := fun _ => fun
  | [d1, d2, g1] => { results := [.lit (.bool false)], args := [d1, d2], vars := [g1] }
  | _ => none }
def FnPropertyNamesPrefixFreeWrongFormAsk : Prop := fnPropertyNamesPrefixFreeRow.holds Tryf.pinned (OpenSpec.ofChange fnPropertyNamesPrefixFreeWrong)

/-- 'zzlaws_explorer_b1.FnPropertyNameIsKebabCase': WHATEVER THE INPUT: true; the input reads as it did. -/
def fnPropertyNameIsKebabCaseSpec : ChangeSpec := { name := "fnPropertyNameIsKebabCase", vars := ["example.com/attestra/attestra/explorer.propertyNames"], fn := fun _ => fun
  | [d, g1] => { results := [.lit (.bool true)], args := [d], vars := [g1] }
  | _ => none }
def fnPropertyNameIsKebabCaseRow : OpenClaim := { program := "qxb6613471afmt", sum := "601c3c2adc4859e09eb43bd3881afef1a5797c1d0b6790b8d24d1a0b38b2d7c9", func := "example.com/attestra/attestra/zzlaws_explorer_b1.FnPropertyNameIsKebabCase", spec := "fnPropertyNameIsKebabCase", stops := ["fmt.Sprintf"], inPlace := ["fmt.Sprintf"], named := ["example.com/attestra/attestra/explorer.propertyNames"], apart := false, laid := [("example.com/attestra/attestra/explorer.propertyNames", laid_example_com_attestra_attestra_explorer_propertyNames)] }
/-- NO THEOREM (fmt's text is open here; it may be false): for the released tool's asking of the row's closed facts alone. THE STATEMENT IS 'FnPropertyNameIsKebabCaseToldSaid' (Qxb6613471aFmtCards.lean). -/
def FnPropertyNameIsKebabCaseFormAsk : Prop := fnPropertyNameIsKebabCaseRow.holds Tryf.pinned (OpenSpec.ofChange fnPropertyNameIsKebabCaseSpec)

/-- ITS FALSE NEIGHBOUR: 'it returns false'. Refute it at one input. -/
def fnPropertyNameIsKebabCaseWrong : ChangeSpec := { name := "fnPropertyNameIsKebabCase", vars := ["example.com/attestra/attestra/explorer.propertyNames"], fn := fun _ => fun
  | [d, g1] => { results := [.lit (.bool false)], args := [d], vars := [g1] }
  | _ => none }
def FnPropertyNameIsKebabCaseWrongFormAsk : Prop := fnPropertyNameIsKebabCaseRow.holds Tryf.pinned (OpenSpec.ofChange fnPropertyNameIsKebabCaseWrong)

end Rows
end Go.Proofs.Qxb6613471aFmt
