/-
  No cell of these rows narrows 'for every input' (looked for: loops, veiled, ifaces, maps, wideKeys, modest, calm, conditions, laid).
  DERIVED. THE GIVEN ROWS OF THIS SEAT. 4 by the template 'for every input the law returns true; each argument reads behind the call as it read before'; 0 by the template 'total and deterministic' (their statements: YthhlioepgfjknaaTotals.lean).
  GIVEN WITH THE SEED: the statements are not yours to turn. If you find one false, say at which input.
  Laid BY PROGRAM, IN A SANDBOX (cutbox-rows.mjs): the forced cells as the released guide's own fill.sh prints them over the translation 108579f606e2fcd0… (all of the seat's roots in one cut). By AI agents, Wed Nov 11 2026. No macro, syntax, notation, axiom, sorry.
-/
import Derived.Test.YthhlioepgfjknaaChecked
import GoSem.Claim
import GoSem.ClaimJoined
import GoSem.ClaimMapViews
import Derived.JoinedTies
import Derived.KernelRfl
namespace Go.Proofs.Ythhlioepgfjknaa
/- THE CELL 'sum', in the pinned program and in every row, IS THE sha256 OF THE DUMP (.gsa) THAT YthhlioepgfjknaaProg.lean LOADS. Nothing in Lean hashes anything: it is a label: what it is worth is what the hold of that sum in a sandbox is worth. -/
noncomputable def Try.pinned : Pinned := { name := "ythhlioepgfjknaa", sum := "108579f606e2fcd0ddcfcc302481625eee584351e13a1768ba08e0d97f856b01", checked := Try.checked }
namespace Rows
def none {H : Type} : Left H := { results := [], args := [] }

/-- 'n011_266.FnMaybeTransposeIfExprChainTwiceComposes': WHATEVER THE INPUT: true; the input reads as it did. -/
def fnMaybeTransposeIfExprChainTwiceComposesSpec : ChangeSpec := { name := "fnMaybeTransposeIfExprChainTwiceComposes", fn := fun _ => fun
  | [d1, d2] => { results := [.lit (.bool true)], args := [d1, d2] }
  | _ => none }
def fnMaybeTransposeIfExprChainTwiceComposesRow : OpenClaim := { program := "ythhlioepgfjknaa", sum := "108579f606e2fcd0ddcfcc302481625eee584351e13a1768ba08e0d97f856b01", func := "github.com/evanw/esbuild/n011_266.FnMaybeTransposeIfExprChainTwiceComposes", spec := "fnMaybeTransposeIfExprChainTwiceComposes", unfollowed := true, recurses := true, plainKeys := false, apart := false }
def FnMaybeTransposeIfExprChainTwiceComposesSaid : Prop := fnMaybeTransposeIfExprChainTwiceComposesRow.holds Try.pinned (OpenSpec.ofChange fnMaybeTransposeIfExprChainTwiceComposesSpec)

/-- ITS FALSE NEIGHBOUR: 'it returns false'. Refute it at one input. -/
def fnMaybeTransposeIfExprChainTwiceComposesWrong : ChangeSpec := { name := "fnMaybeTransposeIfExprChainTwiceComposes", fn := fun _ => fun
  | [d1, d2] => { results := [.lit (.bool false)], args := [d1, d2] }
  | _ => none }
def FnMaybeTransposeIfExprChainTwiceComposesWrongFalsely : Prop := fnMaybeTransposeIfExprChainTwiceComposesRow.holds Try.pinned (OpenSpec.ofChange fnMaybeTransposeIfExprChainTwiceComposesWrong)

/-- 'n011_266.FnMarkExprAsParenthesizedMovesComments': WHATEVER THE INPUT: true; the input reads as it did. -/
def fnMarkExprAsParenthesizedMovesCommentsSpec : ChangeSpec := { name := "fnMarkExprAsParenthesizedMovesComments", fn := fun _ => fun
  | [d1, d2, d3, d4, d5, d6, d7] => { results := [.lit (.bool true)], args := [d1, d2, d3, d4, d5, d6, d7] }
  | _ => none }
def fnMarkExprAsParenthesizedMovesCommentsRow : OpenClaim := { program := "ythhlioepgfjknaa", sum := "108579f606e2fcd0ddcfcc302481625eee584351e13a1768ba08e0d97f856b01", func := "github.com/evanw/esbuild/n011_266.FnMarkExprAsParenthesizedMovesComments", spec := "fnMarkExprAsParenthesizedMovesComments", plainKeys := false, apart := false }
def FnMarkExprAsParenthesizedMovesCommentsSaid : Prop := fnMarkExprAsParenthesizedMovesCommentsRow.holds Try.pinned (OpenSpec.ofChange fnMarkExprAsParenthesizedMovesCommentsSpec)

/-- ITS FALSE NEIGHBOUR: 'it returns false'. Refute it at one input. -/
def fnMarkExprAsParenthesizedMovesCommentsWrong : ChangeSpec := { name := "fnMarkExprAsParenthesizedMovesComments", fn := fun _ => fun
  | [d1, d2, d3, d4, d5, d6, d7] => { results := [.lit (.bool false)], args := [d1, d2, d3, d4, d5, d6, d7] }
  | _ => none }
def FnMarkExprAsParenthesizedMovesCommentsWrongFalsely : Prop := fnMarkExprAsParenthesizedMovesCommentsRow.holds Try.pinned (OpenSpec.ofChange fnMarkExprAsParenthesizedMovesCommentsWrong)

/-- 'n011_266.FnIsSafeForConstLocalPrefixTable': WHATEVER THE INPUT: true; the input reads as it did. -/
def fnIsSafeForConstLocalPrefixTableSpec : ChangeSpec := { name := "fnIsSafeForConstLocalPrefixTable", fn := fun _ => fun
  | [d1, d2, d3] => { results := [.lit (.bool true)], args := [d1, d2, d3] }
  | _ => none }
def fnIsSafeForConstLocalPrefixTableRow : OpenClaim := { program := "ythhlioepgfjknaa", sum := "108579f606e2fcd0ddcfcc302481625eee584351e13a1768ba08e0d97f856b01", func := "github.com/evanw/esbuild/n011_266.FnIsSafeForConstLocalPrefixTable", spec := "fnIsSafeForConstLocalPrefixTable", recurses := true, plainKeys := false, apart := false }
def FnIsSafeForConstLocalPrefixTableSaid : Prop := fnIsSafeForConstLocalPrefixTableRow.holds Try.pinned (OpenSpec.ofChange fnIsSafeForConstLocalPrefixTableSpec)

/-- ITS FALSE NEIGHBOUR: 'it returns false'. Refute it at one input. -/
def fnIsSafeForConstLocalPrefixTableWrong : ChangeSpec := { name := "fnIsSafeForConstLocalPrefixTable", fn := fun _ => fun
  | [d1, d2, d3] => { results := [.lit (.bool false)], args := [d1, d2, d3] }
  | _ => none }
def FnIsSafeForConstLocalPrefixTableWrongFalsely : Prop := fnIsSafeForConstLocalPrefixTableRow.holds Try.pinned (OpenSpec.ofChange fnIsSafeForConstLocalPrefixTableWrong)

/-- 'n011_266.FnMaybeRelocateVarsToTopLevelModesAgree': WHATEVER THE INPUT: true; the input reads as it did. -/
def fnMaybeRelocateVarsToTopLevelModesAgreeSpec : ChangeSpec := { name := "fnMaybeRelocateVarsToTopLevelModesAgree", fn := fun _ => fun
  | [d1, d2, d3, d4, d5] => { results := [.lit (.bool true)], args := [d1, d2, d3, d4, d5] }
  | _ => none }
def fnMaybeRelocateVarsToTopLevelModesAgreeRow : OpenClaim := { program := "ythhlioepgfjknaa", sum := "108579f606e2fcd0ddcfcc302481625eee584351e13a1768ba08e0d97f856b01", func := "github.com/evanw/esbuild/n011_266.FnMaybeRelocateVarsToTopLevelModesAgree", spec := "fnMaybeRelocateVarsToTopLevelModesAgree", unfollowed := true, recurses := true, plainKeys := false, apart := false }
def FnMaybeRelocateVarsToTopLevelModesAgreeSaid : Prop := fnMaybeRelocateVarsToTopLevelModesAgreeRow.holds Try.pinned (OpenSpec.ofChange fnMaybeRelocateVarsToTopLevelModesAgreeSpec)

/-- ITS FALSE NEIGHBOUR: 'it returns false'. Refute it at one input. -/
def fnMaybeRelocateVarsToTopLevelModesAgreeWrong : ChangeSpec := { name := "fnMaybeRelocateVarsToTopLevelModesAgree", fn := fun _ => fun
  | [d1, d2, d3, d4, d5] => { results := [.lit (.bool false)], args := [d1, d2, d3, d4, d5] }
  | _ => none }
def FnMaybeRelocateVarsToTopLevelModesAgreeWrongFalsely : Prop := fnMaybeRelocateVarsToTopLevelModesAgreeRow.holds Try.pinned (OpenSpec.ofChange fnMaybeRelocateVarsToTopLevelModesAgreeWrong)

/- THE SECOND FORM. 'bulk': how many values and letters a reading holds, each counted each time it is reached (what is shared counts as often as it is met; a slice's spare places count too). A statement '..UptoSaid' is the law's where the arguments, and the package variables that the reading takes, are together of bulk at most 1048576: NARROWER than '..Said'. Prove '..Said' where nothing that the law and all that it calls make is longer than what came in: it says more and counts as full. Else prove '..UptoSaid'. A law counts once. -/
mutual
def uptoBulk {H : Type} : DataW H → Nat
  | .lit (.string bytes) => bytes.length + 1
  | .lit _ => 1
  | .nil => 1
  | .ptr d => uptoBulk d + 1
  | .slice elems spare => uptoBulkAll elems + uptoBulkAll spare + 1
  | .agg parts => uptoBulkAll parts + 1
  | .iface _ d => uptoBulk d + 1
  | .map entries => uptoBulkEntries entries + 1
  | .held _ => 1
def uptoBulkAll {H : Type} : List (DataW H) → Nat
  | [] => 0
  | d :: r => uptoBulk d + uptoBulkAll r
def uptoBulkEntries {H : Type} : List (Lit × DataW H) → Nat
  | [] => 0
  | x :: r => uptoBulkEntry x + uptoBulkEntries r
def uptoBulkEntry {H : Type} : Lit × DataW H → Nat
  | (.string bytes, d) => bytes.length + uptoBulk d + 1
  | (_, d) => uptoBulk d + 1
 end
def uptoSmall : (H : Type) → List (DataW H) → Bool := fun _ ds => decide (uptoBulkAll ds ≤ 1048576)
def OpenSpec.upto (s : _root_.Go.ChangeSpec) : _root_.Go.OpenSpec := { _root_.Go.OpenSpec.ofChange s with cond := some uptoSmall }

/-- 'n011_266.FnMaybeTransposeIfExprChainTwiceComposes', WHERE WHAT IT READS IS OF BULK AT MOST 1048576: true; the input reads as it did. -/
def fnMaybeTransposeIfExprChainTwiceComposesUptoRow : OpenClaim := { program := "ythhlioepgfjknaa", sum := "108579f606e2fcd0ddcfcc302481625eee584351e13a1768ba08e0d97f856b01", func := "github.com/evanw/esbuild/n011_266.FnMaybeTransposeIfExprChainTwiceComposes", spec := "fnMaybeTransposeIfExprChainTwiceComposes", unfollowed := true, recurses := true, plainKeys := false, apart := false, narrowed := true }
def FnMaybeTransposeIfExprChainTwiceComposesUptoSaid : Prop := fnMaybeTransposeIfExprChainTwiceComposesUptoRow.holds Try.pinned (OpenSpec.upto fnMaybeTransposeIfExprChainTwiceComposesSpec)

/-- 'n011_266.FnMarkExprAsParenthesizedMovesComments', WHERE WHAT IT READS IS OF BULK AT MOST 1048576: true; the input reads as it did. -/
def fnMarkExprAsParenthesizedMovesCommentsUptoRow : OpenClaim := { program := "ythhlioepgfjknaa", sum := "108579f606e2fcd0ddcfcc302481625eee584351e13a1768ba08e0d97f856b01", func := "github.com/evanw/esbuild/n011_266.FnMarkExprAsParenthesizedMovesComments", spec := "fnMarkExprAsParenthesizedMovesComments", plainKeys := false, apart := false, narrowed := true }
def FnMarkExprAsParenthesizedMovesCommentsUptoSaid : Prop := fnMarkExprAsParenthesizedMovesCommentsUptoRow.holds Try.pinned (OpenSpec.upto fnMarkExprAsParenthesizedMovesCommentsSpec)

/-- 'n011_266.FnIsSafeForConstLocalPrefixTable', WHERE WHAT IT READS IS OF BULK AT MOST 1048576: true; the input reads as it did. -/
def fnIsSafeForConstLocalPrefixTableUptoRow : OpenClaim := { program := "ythhlioepgfjknaa", sum := "108579f606e2fcd0ddcfcc302481625eee584351e13a1768ba08e0d97f856b01", func := "github.com/evanw/esbuild/n011_266.FnIsSafeForConstLocalPrefixTable", spec := "fnIsSafeForConstLocalPrefixTable", recurses := true, plainKeys := false, apart := false, narrowed := true }
def FnIsSafeForConstLocalPrefixTableUptoSaid : Prop := fnIsSafeForConstLocalPrefixTableUptoRow.holds Try.pinned (OpenSpec.upto fnIsSafeForConstLocalPrefixTableSpec)

/-- 'n011_266.FnMaybeRelocateVarsToTopLevelModesAgree', WHERE WHAT IT READS IS OF BULK AT MOST 1048576: true; the input reads as it did. -/
def fnMaybeRelocateVarsToTopLevelModesAgreeUptoRow : OpenClaim := { program := "ythhlioepgfjknaa", sum := "108579f606e2fcd0ddcfcc302481625eee584351e13a1768ba08e0d97f856b01", func := "github.com/evanw/esbuild/n011_266.FnMaybeRelocateVarsToTopLevelModesAgree", spec := "fnMaybeRelocateVarsToTopLevelModesAgree", unfollowed := true, recurses := true, plainKeys := false, apart := false, narrowed := true }
def FnMaybeRelocateVarsToTopLevelModesAgreeUptoSaid : Prop := fnMaybeRelocateVarsToTopLevelModesAgreeUptoRow.holds Try.pinned (OpenSpec.upto fnMaybeRelocateVarsToTopLevelModesAgreeSpec)

end Rows
end Go.Proofs.Ythhlioepgfjknaa
