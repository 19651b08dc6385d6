/-
  DERIVED. GIVEN WITH THE SEED: THE CARDS: each row of YtkanbfphbgoekaaDoorRows.lean that lists a variable, with what it lists TIED to the program's text (the seventh form; the later family's looks); each row that meets fmt, with fmt's text TOLD by the authors' own Lean function (tested against real Go, not proved from fmt's source: count such statements apart). THE CARD IS WHAT COUNTS. Prove the row's statement (the work); the ties are given (YtkanbfphbgoekaaDoorTie.lean); close each card by the builder's one call (the guide's Derived/Test/ToyasCard.lean, 'card_holds'). Laid BY PROGRAM, IN A SANDBOX (cutbox-door.mjs). By AI agents, Wed Nov 11 2026. No macro, syntax, notation, axiom, sorry.
-/
import Derived.Test.YtkanbfphbgoekaaDoorRows
import GoSem.ClaimSeven
namespace Go.Proofs.YtkanbfphbgoekaaDoor
namespace Rows

/-- THE TIED CARD OF 'n011_167.FnMimeTypeByExtensionIgnoresASCIICase'. -/
def fnMimeTypeByExtensionIgnoresASCIICaseCard : Claim7 := { stood := { row := fnMimeTypeByExtensionIgnoresASCIICaseRow, standIns := [], harness := (true, "2ace8827cbda153747c27d06c998ea1272d89417f2cf569b6228a1f645513b72"), looks := false }, kinds := [], alts := [], laidByText := true, laidKinds := [.data, .mapped, .pinned, .pinned], laidTests := true, laidLooks := .later }
def FnMimeTypeByExtensionIgnoresASCIICaseCardSaid : Prop := Claim7.holds Tryd.pinned (.plain (OpenSpec.ofChange fnMimeTypeByExtensionIgnoresASCIICaseSpec)) fnMimeTypeByExtensionIgnoresASCIICaseCard

/-- THE TIED CARD OF 'n011_167.FnMimeTypeByExtensionMatchesTable'. -/
def fnMimeTypeByExtensionMatchesTableCard : Claim7 := { stood := { row := fnMimeTypeByExtensionMatchesTableRow, standIns := [], harness := (true, "2ace8827cbda153747c27d06c998ea1272d89417f2cf569b6228a1f645513b72"), looks := false }, kinds := [], alts := [], laidByText := true, laidKinds := [.data, .mapped, .pinned, .pinned], laidTests := true, laidLooks := .later }
def FnMimeTypeByExtensionMatchesTableCardSaid : Prop := Claim7.holds Tryd.pinned (.plain (OpenSpec.ofChange fnMimeTypeByExtensionMatchesTableSpec)) fnMimeTypeByExtensionMatchesTableCard

/-- THE SECOND FORM's CARD OF 'n011_167.FnMimeTypeByExtensionIgnoresASCIICase'. -/
def fnMimeTypeByExtensionIgnoresASCIICaseUptoCard : Claim7 := { stood := { row := fnMimeTypeByExtensionIgnoresASCIICaseUptoRow, standIns := [], harness := (true, "2ace8827cbda153747c27d06c998ea1272d89417f2cf569b6228a1f645513b72"), looks := false }, kinds := [], alts := [], laidByText := true, laidKinds := [.data, .mapped, .pinned, .pinned], laidTests := true, laidLooks := .later }
def FnMimeTypeByExtensionIgnoresASCIICaseUptoCardSaid : Prop := Claim7.holds Tryd.pinned (.plain (OpenSpec.upto fnMimeTypeByExtensionIgnoresASCIICaseSpec)) fnMimeTypeByExtensionIgnoresASCIICaseUptoCard

/-- THE SECOND FORM's CARD OF 'n011_167.FnMimeTypeByExtensionMatchesTable'. -/
def fnMimeTypeByExtensionMatchesTableUptoCard : Claim7 := { stood := { row := fnMimeTypeByExtensionMatchesTableUptoRow, standIns := [], harness := (true, "2ace8827cbda153747c27d06c998ea1272d89417f2cf569b6228a1f645513b72"), looks := false }, kinds := [], alts := [], laidByText := true, laidKinds := [.data, .mapped, .pinned, .pinned], laidTests := true, laidLooks := .later }
def FnMimeTypeByExtensionMatchesTableUptoCardSaid : Prop := Claim7.holds Tryd.pinned (.plain (OpenSpec.upto fnMimeTypeByExtensionMatchesTableSpec)) fnMimeTypeByExtensionMatchesTableUptoCard
end Rows
end Go.Proofs.YtkanbfphbgoekaaDoor
