/-
  NARROWER THAN 'FOR EVERY INPUT', by the rows' own cells (each row's printed sentence says how): FnMimeTypeByExtensionIgnoresASCIICase: maps, laid · FnMimeTypeByExtensionMatchesTable: maps, laid.
  DERIVED. THE GIVEN ROWS OF THIS SEAT. 2 by the template 'for every input the law returns true; each argument reads behind the call as it read before'; 0 by the template 'total and deterministic' (their statements: YtkanbfphbgoekaaDoorTotals.lean).
  GIVEN WITH THE SEED: the statements are not yours to turn. If you find one false, say at which input.
  Laid BY PROGRAM, IN A SANDBOX (cutbox-rows.mjs): the forced cells as the released guide's own fill.sh prints them over the translation bd119003982272da… (all of the seat's roots in one cut). By AI agents, Wed Nov 11 2026. No macro, syntax, notation, axiom, sorry.
-/
import Derived.Test.YtkanbfphbgoekaaDoorChecked
import GoSem.PinnedTables
import GoSem.Claim
import GoSem.ClaimJoined
import GoSem.ClaimMapViews
import Derived.JoinedTies
import Derived.KernelRfl
namespace Go.Proofs.YtkanbfphbgoekaaDoor
/- THE CELL 'sum', in the pinned program and in every row, IS THE sha256 OF THE DUMP (.gsa) THAT YtkanbfphbgoekaaDoorProg.lean LOADS. Nothing in Lean hashes anything: it is a label: what it is worth is what the hold of that sum in a sandbox is worth. -/
noncomputable def Tryd.pinned : Pinned := { name := "ytkanbfphbgoekaadoor", sum := "bd119003982272da9c6d705d76eb0ed91a6f073789976732548c12a94918fbc3", checked := Tryd.checked }
namespace Rows
def none {H : Type} : Left H := { results := [], args := [] }

/- WHAT THE LISTED PACKAGE-LEVEL VARIABLES READ AS WHEN THE CALL BEGINS. Each datum BY PROGRAM (the guide's laid-datum.mjs) off the statement by which the dump's own 'gosem.cut.vars' lays the variable. In a bare row this is a premise. The card (YtkanbfphbgoekaaDoorCards.lean) ties it to the program's text. -/
def laid_unicode_utf8_acceptRanges {H : Type} : DataW H := .agg [.agg [.lit (.int .u8 128), .lit (.int .u8 191)], .agg [.lit (.int .u8 160), .lit (.int .u8 191)], .agg [.lit (.int .u8 128), .lit (.int .u8 159)], .agg [.lit (.int .u8 144), .lit (.int .u8 191)], .agg [.lit (.int .u8 128), .lit (.int .u8 143)], .agg [.lit (.int .u8 0), .lit (.int .u8 0)], .agg [.lit (.int .u8 0), .lit (.int .u8 0)], .agg [.lit (.int .u8 0), .lit (.int .u8 0)], .agg [.lit (.int .u8 0), .lit (.int .u8 0)], .agg [.lit (.int .u8 0), .lit (.int .u8 0)], .agg [.lit (.int .u8 0), .lit (.int .u8 0)], .agg [.lit (.int .u8 0), .lit (.int .u8 0)], .agg [.lit (.int .u8 0), .lit (.int .u8 0)], .agg [.lit (.int .u8 0), .lit (.int .u8 0)], .agg [.lit (.int .u8 0), .lit (.int .u8 0)], .agg [.lit (.int .u8 0), .lit (.int .u8 0)]]
def laid_github_com_evanw_esbuild_internal_helpers_builtinTypesLower {H : Type} : DataW H := .map [(.string [46, 97, 118, 105, 102], .lit (.string [105, 109, 97, 103, 101, 47, 97, 118, 105, 102])), (.string [46, 99, 115, 115], .lit (.string [116, 101, 120, 116, 47, 99, 115, 115, 59, 32, 99, 104, 97, 114, 115, 101, 116, 61, 117, 116, 102, 45, 56])), (.string [46, 101, 111, 116], .lit (.string [97, 112, 112, 108, 105, 99, 97, 116, 105, 111, 110, 47, 118, 110, 100, 46, 109, 115, 45, 102, 111, 110, 116, 111, 98, 106, 101, 99, 116])), (.string [46, 103, 105, 102], .lit (.string [105, 109, 97, 103, 101, 47, 103, 105, 102])), (.string [46, 104, 116, 109], .lit (.string [116, 101, 120, 116, 47, 104, 116, 109, 108, 59, 32, 99, 104, 97, 114, 115, 101, 116, 61, 117, 116, 102, 45, 56])), (.string [46, 104, 116, 109, 108], .lit (.string [116, 101, 120, 116, 47, 104, 116, 109, 108, 59, 32, 99, 104, 97, 114, 115, 101, 116, 61, 117, 116, 102, 45, 56])), (.string [46, 106, 112, 101, 103], .lit (.string [105, 109, 97, 103, 101, 47, 106, 112, 101, 103])), (.string [46, 106, 112, 103], .lit (.string [105, 109, 97, 103, 101, 47, 106, 112, 101, 103])), (.string [46, 106, 115], .lit (.string [116, 101, 120, 116, 47, 106, 97, 118, 97, 115, 99, 114, 105, 112, 116, 59, 32, 99, 104, 97, 114, 115, 101, 116, 61, 117, 116, 102, 45, 56])), (.string [46, 106, 115, 111, 110], .lit (.string [97, 112, 112, 108, 105, 99, 97, 116, 105, 111, 110, 47, 106, 115, 111, 110, 59, 32, 99, 104, 97, 114, 115, 101, 116, 61, 117, 116, 102, 45, 56])), (.string [46, 109, 97, 114, 107, 100, 111, 119, 110], .lit (.string [116, 101, 120, 116, 47, 109, 97, 114, 107, 100, 111, 119, 110, 59, 32, 99, 104, 97, 114, 115, 101, 116, 61, 117, 116, 102, 45, 56])), (.string [46, 109, 100], .lit (.string [116, 101, 120, 116, 47, 109, 97, 114, 107, 100, 111, 119, 110, 59, 32, 99, 104, 97, 114, 115, 101, 116, 61, 117, 116, 102, 45, 56])), (.string [46, 109, 106, 115], .lit (.string [116, 101, 120, 116, 47, 106, 97, 118, 97, 115, 99, 114, 105, 112, 116, 59, 32, 99, 104, 97, 114, 115, 101, 116, 61, 117, 116, 102, 45, 56])), (.string [46, 109, 112, 51], .lit (.string [97, 117, 100, 105, 111, 47, 109, 112, 101, 103])), (.string [46, 111, 116, 102], .lit (.string [102, 111, 110, 116, 47, 111, 116, 102])), (.string [46, 112, 100, 102], .lit (.string [97, 112, 112, 108, 105, 99, 97, 116, 105, 111, 110, 47, 112, 100, 102])), (.string [46, 112, 110, 103], .lit (.string [105, 109, 97, 103, 101, 47, 112, 110, 103])), (.string [46, 115, 102, 110, 116], .lit (.string [102, 111, 110, 116, 47, 115, 102, 110, 116])), (.string [46, 115, 118, 103], .lit (.string [105, 109, 97, 103, 101, 47, 115, 118, 103, 43, 120, 109, 108])), (.string [46, 116, 116, 102], .lit (.string [102, 111, 110, 116, 47, 116, 116, 102])), (.string [46, 119, 97, 115, 109], .lit (.string [97, 112, 112, 108, 105, 99, 97, 116, 105, 111, 110, 47, 119, 97, 115, 109])), (.string [46, 119, 101, 98, 109, 97, 110, 105, 102, 101, 115, 116], .lit (.string [97, 112, 112, 108, 105, 99, 97, 116, 105, 111, 110, 47, 109, 97, 110, 105, 102, 101, 115, 116, 43, 106, 115, 111, 110])), (.string [46, 119, 101, 98, 112], .lit (.string [105, 109, 97, 103, 101, 47, 119, 101, 98, 112])), (.string [46, 119, 111, 102, 102], .lit (.string [102, 111, 110, 116, 47, 119, 111, 102, 102])), (.string [46, 119, 111, 102, 102, 50], .lit (.string [102, 111, 110, 116, 47, 119, 111, 102, 102, 50])), (.string [46, 120, 104, 116, 109, 108], .lit (.string [97, 112, 112, 108, 105, 99, 97, 116, 105, 111, 110, 47, 120, 104, 116, 109, 108, 43, 120, 109, 108, 59, 32, 99, 104, 97, 114, 115, 101, 116, 61, 117, 116, 102, 45, 56])), (.string [46, 120, 109, 108], .lit (.string [116, 101, 120, 116, 47, 120, 109, 108, 59, 32, 99, 104, 97, 114, 115, 101, 116, 61, 117, 116, 102, 45, 56]))]
/-- One of Go's own tables, pinned by name: the form's constant. -/
def laid_unicode_CaseRanges : DataW Unit := Go.Pinned.caseRanges
/-- One of Go's own tables, pinned by name: the form's constant. -/
def laid_unicode_utf8_first : DataW Unit := Go.Pinned.utf8First

/-- 'n011_167.FnMimeTypeByExtensionIgnoresASCIICase': WHATEVER THE INPUT: true; the input reads as it did. -/
def fnMimeTypeByExtensionIgnoresASCIICaseSpec : ChangeSpec := { name := "fnMimeTypeByExtensionIgnoresASCIICase", vars := ["github.com/evanw/esbuild/internal/helpers.builtinTypesLower"], fn := fun _ => fun
  | [d, g1] => { results := [.lit (.bool true)], args := [d], vars := [g1] }
  | _ => none }
def fnMimeTypeByExtensionIgnoresASCIICaseRow : OpenClaim := { program := "ytkanbfphbgoekaadoor", sum := "bd119003982272da9c6d705d76eb0ed91a6f073789976732548c12a94918fbc3", func := "github.com/evanw/esbuild/n011_167.FnMimeTypeByExtensionIgnoresASCIICase", spec := "fnMimeTypeByExtensionIgnoresASCIICase", inPlace := ["internal/abi.NoEscape", "internal/bytealg.MakeNoZero"], unfollowed := true, recurses := true, named := ["github.com/evanw/esbuild/internal/helpers.builtinTypesLower", "unicode/utf8.first", "unicode/utf8.acceptRanges", "unicode.CaseRanges"], maps := true, apart := false, laid := [("unicode/utf8.acceptRanges", laid_unicode_utf8_acceptRanges), ("github.com/evanw/esbuild/internal/helpers.builtinTypesLower", laid_github_com_evanw_esbuild_internal_helpers_builtinTypesLower), ("unicode.CaseRanges", laid_unicode_CaseRanges), ("unicode/utf8.first", laid_unicode_utf8_first)] }
def FnMimeTypeByExtensionIgnoresASCIICaseSaid : Prop := fnMimeTypeByExtensionIgnoresASCIICaseRow.holds Tryd.pinned (OpenSpec.ofChange fnMimeTypeByExtensionIgnoresASCIICaseSpec)

/-- ITS FALSE NEIGHBOUR: 'it returns false'. Refute it at one input. -/
def fnMimeTypeByExtensionIgnoresASCIICaseWrong : ChangeSpec := { name := "fnMimeTypeByExtensionIgnoresASCIICase", vars := ["github.com/evanw/esbuild/internal/helpers.builtinTypesLower"], fn := fun _ => fun
  | [d, g1] => { results := [.lit (.bool false)], args := [d], vars := [g1] }
  | _ => none }
def FnMimeTypeByExtensionIgnoresASCIICaseWrongFalsely : Prop := fnMimeTypeByExtensionIgnoresASCIICaseRow.holds Tryd.pinned (OpenSpec.ofChange fnMimeTypeByExtensionIgnoresASCIICaseWrong)

/-- 'n011_167.FnMimeTypeByExtensionMatchesTable': WHATEVER THE INPUT: true; the input reads as it did. -/
def fnMimeTypeByExtensionMatchesTableSpec : ChangeSpec := { name := "fnMimeTypeByExtensionMatchesTable", vars := ["github.com/evanw/esbuild/internal/helpers.builtinTypesLower"], fn := fun _ => fun
  | [d, g1] => { results := [.lit (.bool true)], args := [d], vars := [g1] }
  | _ => none }
def fnMimeTypeByExtensionMatchesTableRow : OpenClaim := { program := "ytkanbfphbgoekaadoor", sum := "bd119003982272da9c6d705d76eb0ed91a6f073789976732548c12a94918fbc3", func := "github.com/evanw/esbuild/n011_167.FnMimeTypeByExtensionMatchesTable", spec := "fnMimeTypeByExtensionMatchesTable", inPlace := ["internal/abi.NoEscape", "internal/bytealg.MakeNoZero"], unfollowed := true, recurses := true, named := ["github.com/evanw/esbuild/internal/helpers.builtinTypesLower", "unicode/utf8.first", "unicode/utf8.acceptRanges", "unicode.CaseRanges"], maps := true, apart := false, laid := [("unicode/utf8.acceptRanges", laid_unicode_utf8_acceptRanges), ("github.com/evanw/esbuild/internal/helpers.builtinTypesLower", laid_github_com_evanw_esbuild_internal_helpers_builtinTypesLower), ("unicode.CaseRanges", laid_unicode_CaseRanges), ("unicode/utf8.first", laid_unicode_utf8_first)] }
def FnMimeTypeByExtensionMatchesTableSaid : Prop := fnMimeTypeByExtensionMatchesTableRow.holds Tryd.pinned (OpenSpec.ofChange fnMimeTypeByExtensionMatchesTableSpec)

/-- ITS FALSE NEIGHBOUR: 'it returns false'. Refute it at one input. -/
def fnMimeTypeByExtensionMatchesTableWrong : ChangeSpec := { name := "fnMimeTypeByExtensionMatchesTable", vars := ["github.com/evanw/esbuild/internal/helpers.builtinTypesLower"], fn := fun _ => fun
  | [d, g1] => { results := [.lit (.bool false)], args := [d], vars := [g1] }
  | _ => none }
def FnMimeTypeByExtensionMatchesTableWrongFalsely : Prop := fnMimeTypeByExtensionMatchesTableRow.holds Tryd.pinned (OpenSpec.ofChange fnMimeTypeByExtensionMatchesTableWrong)

/- THE SECOND FORM. 'bulk': how many values and letters a reading holds, each counted each time it is reached (what is shared counts as often as it is met; a slice's spare places count too). A statement '..UptoSaid' is the law's where the arguments, and the package variables that the reading takes, are together of bulk at most 1048576: NARROWER than '..Said'. Prove '..Said' where nothing that the law and all that it calls make is longer than what came in: it says more and counts as full. Else prove '..UptoSaid'. A law counts once. -/
mutual
def uptoBulk {H : Type} : DataW H → Nat
  | .lit (.string bytes) => bytes.length + 1
  | .lit _ => 1
  | .nil => 1
  | .ptr d => uptoBulk d + 1
  | .slice elems spare => uptoBulkAll elems + uptoBulkAll spare + 1
  | .agg parts => uptoBulkAll parts + 1
  | .iface _ d => uptoBulk d + 1
  | .map entries => uptoBulkEntries entries + 1
  | .held _ => 1
def uptoBulkAll {H : Type} : List (DataW H) → Nat
  | [] => 0
  | d :: r => uptoBulk d + uptoBulkAll r
def uptoBulkEntries {H : Type} : List (Lit × DataW H) → Nat
  | [] => 0
  | x :: r => uptoBulkEntry x + uptoBulkEntries r
def uptoBulkEntry {H : Type} : Lit × DataW H → Nat
  | (.string bytes, d) => bytes.length + uptoBulk d + 1
  | (_, d) => uptoBulk d + 1
 end
def uptoSmall : (H : Type) → List (DataW H) → Bool := fun _ ds => decide (uptoBulkAll ds ≤ 1048576)
def OpenSpec.upto (s : _root_.Go.ChangeSpec) : _root_.Go.OpenSpec := { _root_.Go.OpenSpec.ofChange s with cond := some uptoSmall }

/-- 'n011_167.FnMimeTypeByExtensionIgnoresASCIICase', WHERE WHAT IT READS IS OF BULK AT MOST 1048576: true; the input reads as it did. -/
def fnMimeTypeByExtensionIgnoresASCIICaseUptoRow : OpenClaim := { program := "ytkanbfphbgoekaadoor", sum := "bd119003982272da9c6d705d76eb0ed91a6f073789976732548c12a94918fbc3", func := "github.com/evanw/esbuild/n011_167.FnMimeTypeByExtensionIgnoresASCIICase", spec := "fnMimeTypeByExtensionIgnoresASCIICase", inPlace := ["internal/abi.NoEscape", "internal/bytealg.MakeNoZero"], unfollowed := true, recurses := true, named := ["github.com/evanw/esbuild/internal/helpers.builtinTypesLower", "unicode/utf8.first", "unicode/utf8.acceptRanges", "unicode.CaseRanges"], maps := true, apart := false, laid := [("unicode/utf8.acceptRanges", laid_unicode_utf8_acceptRanges), ("github.com/evanw/esbuild/internal/helpers.builtinTypesLower", laid_github_com_evanw_esbuild_internal_helpers_builtinTypesLower), ("unicode.CaseRanges", laid_unicode_CaseRanges), ("unicode/utf8.first", laid_unicode_utf8_first)], narrowed := true }
def FnMimeTypeByExtensionIgnoresASCIICaseUptoSaid : Prop := fnMimeTypeByExtensionIgnoresASCIICaseUptoRow.holds Tryd.pinned (OpenSpec.upto fnMimeTypeByExtensionIgnoresASCIICaseSpec)

/-- 'n011_167.FnMimeTypeByExtensionMatchesTable', WHERE WHAT IT READS IS OF BULK AT MOST 1048576: true; the input reads as it did. -/
def fnMimeTypeByExtensionMatchesTableUptoRow : OpenClaim := { program := "ytkanbfphbgoekaadoor", sum := "bd119003982272da9c6d705d76eb0ed91a6f073789976732548c12a94918fbc3", func := "github.com/evanw/esbuild/n011_167.FnMimeTypeByExtensionMatchesTable", spec := "fnMimeTypeByExtensionMatchesTable", inPlace := ["internal/abi.NoEscape", "internal/bytealg.MakeNoZero"], unfollowed := true, recurses := true, named := ["github.com/evanw/esbuild/internal/helpers.builtinTypesLower", "unicode/utf8.first", "unicode/utf8.acceptRanges", "unicode.CaseRanges"], maps := true, apart := false, laid := [("unicode/utf8.acceptRanges", laid_unicode_utf8_acceptRanges), ("github.com/evanw/esbuild/internal/helpers.builtinTypesLower", laid_github_com_evanw_esbuild_internal_helpers_builtinTypesLower), ("unicode.CaseRanges", laid_unicode_CaseRanges), ("unicode/utf8.first", laid_unicode_utf8_first)], narrowed := true }
def FnMimeTypeByExtensionMatchesTableUptoSaid : Prop := fnMimeTypeByExtensionMatchesTableUptoRow.holds Tryd.pinned (OpenSpec.upto fnMimeTypeByExtensionMatchesTableSpec)

end Rows
end Go.Proofs.YtkanbfphbgoekaaDoor
