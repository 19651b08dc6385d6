/-
  DERIVED. GIVEN WITH THE SEED: THE CARDS: each row of YtcalijmopeebgaaDoorRows.lean that lists a variable, with what it lists TIED to the program's text (the seventh form; the later family's looks); each row that meets fmt, with fmt's text TOLD by the authors' own Lean function (tested against real Go, not proved from fmt's source: count such statements apart). THE CARD IS WHAT COUNTS. Prove the row's statement (the work); the ties are given (YtcalijmopeebgaaDoorTie.lean); close each card by the builder's one call (the guide's Derived/Test/ToyasCard.lean, 'card_holds'). Laid BY PROGRAM, IN A SANDBOX (cutbox-door.mjs). By AI agents, Wed Nov 11 2026. No macro, syntax, notation, axiom, sorry.
-/
import Derived.Test.YtcalijmopeebgaaDoorRows
import GoSem.ClaimSeven
namespace Go.Proofs.YtcalijmopeebgaaDoor
namespace Rows

/-- THE TIED CARD OF 'n011_292.FnSymbolForMangledPropRerun'. -/
def fnSymbolForMangledPropRerunCard : Claim7 := { stood := { row := fnSymbolForMangledPropRerunRow, standIns := [], harness := (true, "4267b5d6d71350ff8bb136ba8ff3277b241fad4bea2aebe0a2782d00dc1bb56f"), looks := false }, kinds := [], alts := [], laidByText := true, laidKinds := [.data], laidTests := true, laidLooks := .later }
def FnSymbolForMangledPropRerunCardSaid : Prop := Claim7.holds Tryd.pinned (.plain (OpenSpec.ofChange fnSymbolForMangledPropRerunSpec)) fnSymbolForMangledPropRerunCard

/-- THE TIED CARD OF 'n011_292.FnSymbolForMangledPropScript'. -/
def fnSymbolForMangledPropScriptCard : Claim7 := { stood := { row := fnSymbolForMangledPropScriptRow, standIns := [], harness := (true, "4267b5d6d71350ff8bb136ba8ff3277b241fad4bea2aebe0a2782d00dc1bb56f"), looks := false }, kinds := [], alts := [], laidByText := true, laidKinds := [.data], laidTests := true, laidLooks := .later }
def FnSymbolForMangledPropScriptCardSaid : Prop := Claim7.holds Tryd.pinned (.plain (OpenSpec.ofChange fnSymbolForMangledPropScriptSpec)) fnSymbolForMangledPropScriptCard

/-- THE SECOND FORM's CARD OF 'n011_292.FnSymbolForMangledPropRerun'. -/
def fnSymbolForMangledPropRerunUptoCard : Claim7 := { stood := { row := fnSymbolForMangledPropRerunUptoRow, standIns := [], harness := (true, "4267b5d6d71350ff8bb136ba8ff3277b241fad4bea2aebe0a2782d00dc1bb56f"), looks := false }, kinds := [], alts := [], laidByText := true, laidKinds := [.data], laidTests := true, laidLooks := .later }
def FnSymbolForMangledPropRerunUptoCardSaid : Prop := Claim7.holds Tryd.pinned (.plain (OpenSpec.upto fnSymbolForMangledPropRerunSpec)) fnSymbolForMangledPropRerunUptoCard

/-- THE SECOND FORM's CARD OF 'n011_292.FnSymbolForMangledPropScript'. -/
def fnSymbolForMangledPropScriptUptoCard : Claim7 := { stood := { row := fnSymbolForMangledPropScriptUptoRow, standIns := [], harness := (true, "4267b5d6d71350ff8bb136ba8ff3277b241fad4bea2aebe0a2782d00dc1bb56f"), looks := false }, kinds := [], alts := [], laidByText := true, laidKinds := [.data], laidTests := true, laidLooks := .later }
def FnSymbolForMangledPropScriptUptoCardSaid : Prop := Claim7.holds Tryd.pinned (.plain (OpenSpec.upto fnSymbolForMangledPropScriptSpec)) fnSymbolForMangledPropScriptUptoCard
end Rows
end Go.Proofs.YtcalijmopeebgaaDoor
