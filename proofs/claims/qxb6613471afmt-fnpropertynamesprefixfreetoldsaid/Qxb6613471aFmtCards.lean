/-
  DERIVED. GIVEN WITH THE SEED: THE CARDS: each row of Qxb6613471aFmtRows.lean that lists a variable, with what it lists TIED to the program's text (the seventh form; the later family's looks); each row that meets fmt, with fmt's text TOLD by the authors' own Lean function (tested against real Go, not proved from fmt's source: count such statements apart). THE CARD IS WHAT COUNTS. Prove the row's statement (the work); the ties are given (Qxb6613471aFmtTie.lean); close each card by the builder's one call (the guide's Derived/Test/ToyasCard.lean, 'card_holds'). Laid BY PROGRAM, IN A SANDBOX (cutbox-door.mjs). By AI agents, Wed Nov 11 2026. No macro, syntax, notation, axiom, sorry.
-/
import Derived.Test.Qxb6613471aFmtRows
import GoSem.ClaimSeven
namespace Go.Proofs.Qxb6613471aFmt
namespace Rows

/-- THE TOLD AND TIED CARD OF 'zzlaws_explorer_b1.FnPropertyNamesPrefixFree'. -/
def fnPropertyNamesPrefixFreeCard : Claim7 := { stood := { row := fnPropertyNamesPrefixFreeRow, standIns := [], harness := (true, "5900330b0b7ea62f1b242bde4b1e78006342bb53526bbd0e320c040383f67536"), looks := false }, told := true, laidByText := true, laidKinds := [.widerDeep], laidTests := true, laidLooks := .later, goes := false }
def FnPropertyNamesPrefixFreeToldSaid : Prop := Claim7.holds Tryf.pinned (.plain (OpenSpec.ofChange fnPropertyNamesPrefixFreeSpec)) fnPropertyNamesPrefixFreeCard
/-- ITS FALSE NEIGHBOUR. Refute it at one input. -/
def FnPropertyNamesPrefixFreeToldWrongFalsely : Prop := Claim7.holds Tryf.pinned (.plain (OpenSpec.ofChange fnPropertyNamesPrefixFreeWrong)) fnPropertyNamesPrefixFreeCard

/-- THE TOLD AND TIED CARD OF 'zzlaws_explorer_b1.FnPropertyNameIsKebabCase'. -/
def fnPropertyNameIsKebabCaseCard : Claim7 := { stood := { row := fnPropertyNameIsKebabCaseRow, standIns := [], harness := (true, "5900330b0b7ea62f1b242bde4b1e78006342bb53526bbd0e320c040383f67536"), looks := false }, told := true, laidByText := true, laidKinds := [.widerDeep], laidTests := true, laidLooks := .later, goes := false }
def FnPropertyNameIsKebabCaseToldSaid : Prop := Claim7.holds Tryf.pinned (.plain (OpenSpec.ofChange fnPropertyNameIsKebabCaseSpec)) fnPropertyNameIsKebabCaseCard
/-- ITS FALSE NEIGHBOUR. Refute it at one input. -/
def FnPropertyNameIsKebabCaseToldWrongFalsely : Prop := Claim7.holds Tryf.pinned (.plain (OpenSpec.ofChange fnPropertyNameIsKebabCaseWrong)) fnPropertyNameIsKebabCaseCard
end Rows
end Go.Proofs.Qxb6613471aFmt
