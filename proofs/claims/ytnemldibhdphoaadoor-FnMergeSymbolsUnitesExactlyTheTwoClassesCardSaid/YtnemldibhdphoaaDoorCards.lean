/-
  DERIVED. GIVEN WITH THE SEED: THE CARDS: each row of YtnemldibhdphoaaDoorRows.lean that lists a variable, with what it lists TIED to the program's text (the seventh form; the later family's looks); each row that meets fmt, with fmt's text TOLD by the authors' own Lean function (tested against real Go, not proved from fmt's source: count such statements apart). THE CARD IS WHAT COUNTS. Prove the row's statement (the work); the ties are given (YtnemldibhdphoaaDoorTie.lean); close each card by the builder's one call (the guide's Derived/Test/ToyasCard.lean, 'card_holds'). Laid BY PROGRAM, IN A SANDBOX (cutbox-door.mjs). By AI agents, Wed Nov 11 2026. No macro, syntax, notation, axiom, sorry.
-/
import Derived.Test.YtnemldibhdphoaaDoorRows
import GoSem.ClaimSeven
namespace Go.Proofs.YtnemldibhdphoaaDoor
namespace Rows

/-- THE TIED CARD OF 'n011_309.FnMergeSymbolsUnitesExactlyTheTwoClasses'. -/
def fnMergeSymbolsUnitesExactlyTheTwoClassesCard : Claim7 := { stood := { row := fnMergeSymbolsUnitesExactlyTheTwoClassesRow, standIns := [], harness := (true, "3694b0f15c8dc3d0c01214a002ac9c0bbff6004e568028da2e53c01ac30403f8"), looks := false }, kinds := [], alts := [], laidByText := true, laidKinds := [.data], laidTests := true, laidLooks := .later }
def FnMergeSymbolsUnitesExactlyTheTwoClassesCardSaid : Prop := Claim7.holds Tryd.pinned (.plain (OpenSpec.ofChange fnMergeSymbolsUnitesExactlyTheTwoClassesSpec)) fnMergeSymbolsUnitesExactlyTheTwoClassesCard

/-- THE SECOND FORM's CARD OF 'n011_309.FnMergeSymbolsUnitesExactlyTheTwoClasses'. -/
def fnMergeSymbolsUnitesExactlyTheTwoClassesUptoCard : Claim7 := { stood := { row := fnMergeSymbolsUnitesExactlyTheTwoClassesUptoRow, standIns := [], harness := (true, "3694b0f15c8dc3d0c01214a002ac9c0bbff6004e568028da2e53c01ac30403f8"), looks := false }, kinds := [], alts := [], laidByText := true, laidKinds := [.data], laidTests := true, laidLooks := .later }
def FnMergeSymbolsUnitesExactlyTheTwoClassesUptoCardSaid : Prop := Claim7.holds Tryd.pinned (.plain (OpenSpec.upto fnMergeSymbolsUnitesExactlyTheTwoClassesSpec)) fnMergeSymbolsUnitesExactlyTheTwoClassesUptoCard
end Rows
end Go.Proofs.YtnemldibhdphoaaDoor
