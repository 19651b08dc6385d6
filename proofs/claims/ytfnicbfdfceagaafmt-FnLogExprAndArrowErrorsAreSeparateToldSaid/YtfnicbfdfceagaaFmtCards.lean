/-
  DERIVED. GIVEN WITH THE SEED: THE CARDS: each row of YtfnicbfdfceagaaFmtRows.lean that lists a variable, with what it lists TIED to the program's text (the seventh form; the later family's looks); each row that meets fmt, with fmt's text TOLD by the authors' own Lean function (tested against real Go, not proved from fmt's source: count such statements apart). THE CARD IS WHAT COUNTS. Prove the row's statement (the work); the ties are given (YtfnicbfdfceagaaFmtTie.lean); close each card by the builder's one call (the guide's Derived/Test/ToyasCard.lean, 'card_holds'). Laid BY PROGRAM, IN A SANDBOX (cutbox-door.mjs). By AI agents, Wed Nov 11 2026. No macro, syntax, notation, axiom, sorry.
-/
import Derived.Test.YtfnicbfdfceagaaFmtRows
import GoSem.ClaimSeven
namespace Go.Proofs.YtfnicbfdfceagaaFmt
namespace Rows

/-- THE TOLD AND TIED CARD OF 'n011_55.FnLogExprAndArrowErrorsAreSeparate'. -/
def fnLogExprAndArrowErrorsAreSeparateCard : Claim7 := { stood := { row := fnLogExprAndArrowErrorsAreSeparateRow, standIns := [], harness := (true, "5b0b83fdd6d573a911866c2b987a3232ad5f988d17c8d46c07e9902ba51cca76"), looks := false }, told := true, laidByText := true, laidKinds := [.data, .pinned], laidTests := true, laidLooks := .later, goes := false }
def FnLogExprAndArrowErrorsAreSeparateToldSaid : Prop := Claim7.holds Tryf.pinned (.plain (OpenSpec.ofChange fnLogExprAndArrowErrorsAreSeparateSpec)) fnLogExprAndArrowErrorsAreSeparateCard
/-- ITS FALSE NEIGHBOUR. Refute it at one input. -/
def FnLogExprAndArrowErrorsAreSeparateToldWrongFalsely : Prop := Claim7.holds Tryf.pinned (.plain (OpenSpec.ofChange fnLogExprAndArrowErrorsAreSeparateWrong)) fnLogExprAndArrowErrorsAreSeparateCard
end Rows
end Go.Proofs.YtfnicbfdfceagaaFmt
