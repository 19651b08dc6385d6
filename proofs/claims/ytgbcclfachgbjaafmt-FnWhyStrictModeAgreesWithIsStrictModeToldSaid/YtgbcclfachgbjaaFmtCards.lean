/-
  DERIVED. GIVEN WITH THE SEED: THE CARDS: each row of YtgbcclfachgbjaaFmtRows.lean that lists a variable, with what it lists TIED to the program's text (the seventh form; the later family's looks); each row that meets fmt, with fmt's text TOLD by the authors' own Lean function (tested against real Go, not proved from fmt's source: count such statements apart). THE CARD IS WHAT COUNTS. Prove the row's statement (the work); the ties are given (YtgbcclfachgbjaaFmtTie.lean); close each card by the builder's one call (the guide's Derived/Test/ToyasCard.lean, 'card_holds'). Laid BY PROGRAM, IN A SANDBOX (cutbox-door.mjs). By AI agents, Wed Nov 11 2026. No macro, syntax, notation, axiom, sorry.
-/
import Derived.Test.YtgbcclfachgbjaaFmtRows
import GoSem.ClaimSeven
namespace Go.Proofs.YtgbcclfachgbjaaFmt
namespace Rows

/-- THE TOLD AND TIED CARD OF 'n011_300.FnWhyStrictModeAgreesWithIsStrictMode'. -/
def fnWhyStrictModeAgreesWithIsStrictModeCard : Claim7 := { stood := { row := fnWhyStrictModeAgreesWithIsStrictModeRow, standIns := [], harness := (true, "012adab85d7317f5209e3f3a00aba2044a49878d7dd72dced7b774c81f654446"), looks := false }, told := true, laidByText := true, laidKinds := [.data, .pinned], laidTests := true, laidLooks := .later, goes := false }
def FnWhyStrictModeAgreesWithIsStrictModeToldSaid : Prop := Claim7.holds Tryf.pinned (.plain (OpenSpec.ofChange fnWhyStrictModeAgreesWithIsStrictModeSpec)) fnWhyStrictModeAgreesWithIsStrictModeCard
/-- ITS FALSE NEIGHBOUR. Refute it at one input. -/
def FnWhyStrictModeAgreesWithIsStrictModeToldWrongFalsely : Prop := Claim7.holds Tryf.pinned (.plain (OpenSpec.ofChange fnWhyStrictModeAgreesWithIsStrictModeWrong)) fnWhyStrictModeAgreesWithIsStrictModeCard
end Rows
end Go.Proofs.YtgbcclfachgbjaaFmt
