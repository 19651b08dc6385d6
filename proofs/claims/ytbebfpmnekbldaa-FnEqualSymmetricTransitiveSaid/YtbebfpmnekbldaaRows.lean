/-
  No cell of these rows narrows 'for every input' (looked for: loops, veiled, ifaces, maps, wideKeys, modest, calm, conditions, laid).
  DERIVED. THE GIVEN ROWS OF THIS SEAT. 4 by the template 'for every input the law returns true; each argument reads behind the call as it read before'; 0 by the template 'total and deterministic' (their statements: YtbebfpmnekbldaaTotals.lean).
  GIVEN WITH THE SEED: the statements are not yours to turn. If you find one false, say at which input.
  Laid BY PROGRAM, IN A SANDBOX (cutbox-rows.mjs): the forced cells as the released guide's own fill.sh prints them over the translation 6f6d690fbc0f2a79… (all of the seat's roots in one cut). By AI agents, Wed Nov 11 2026. No macro, syntax, notation, axiom, sorry.
-/
import Derived.Test.YtbebfpmnekbldaaChecked
import GoSem.Claim
import GoSem.ClaimJoined
import GoSem.ClaimMapViews
import Derived.JoinedTies
import Derived.KernelRfl
namespace Go.Proofs.Ytbebfpmnekbldaa
/- THE CELL 'sum', in the pinned program and in every row, IS THE sha256 OF THE DUMP (.gsa) THAT YtbebfpmnekbldaaProg.lean LOADS. Nothing in Lean hashes anything: it is a label: what it is worth is what the hold of that sum in a sandbox is worth. -/
noncomputable def Try.pinned : Pinned := { name := "ytbebfpmnekbldaa", sum := "6f6d690fbc0f2a79778c69b57f14082c07793bd014703b2590613d3dfe5484f0", checked := Try.checked }
namespace Rows
def none {H : Type} : Left H := { results := [], args := [] }

/-- 'n011_58.FnYarnPnPEqualityTable': WHATEVER THE INPUT: true; the input reads as it did. -/
def fnYarnPnPEqualityTableSpec : ChangeSpec := { name := "fnYarnPnPEqualityTable", fn := fun _ => fun
  | [] => { results := [.lit (.bool true)], args := [] }
  | _ => none }
def fnYarnPnPEqualityTableRow : OpenClaim := { program := "ytbebfpmnekbldaa", sum := "6f6d690fbc0f2a79778c69b57f14082c07793bd014703b2590613d3dfe5484f0", func := "github.com/evanw/esbuild/n011_58.FnYarnPnPEqualityTable", spec := "fnYarnPnPEqualityTable", inPlace := ["math.Float64bits"], recurses := true, apart := false }
def FnYarnPnPEqualityTableSaid : Prop := fnYarnPnPEqualityTableRow.holds Try.pinned (OpenSpec.ofChange fnYarnPnPEqualityTableSpec)

/-- ITS FALSE NEIGHBOUR: 'it returns false'. Refute it at one input. -/
def fnYarnPnPEqualityTableWrong : ChangeSpec := { name := "fnYarnPnPEqualityTable", fn := fun _ => fun
  | [] => { results := [.lit (.bool false)], args := [] }
  | _ => none }
def FnYarnPnPEqualityTableWrongFalsely : Prop := fnYarnPnPEqualityTableRow.holds Try.pinned (OpenSpec.ofChange fnYarnPnPEqualityTableWrong)

/-- 'n011_58.FnYarnPnPNeverEqualsConfigOptions': WHATEVER THE INPUT: true; the input reads as it did. -/
def fnYarnPnPNeverEqualsConfigOptionsSpec : ChangeSpec := { name := "fnYarnPnPNeverEqualsConfigOptions", fn := fun _ => fun
  | [d] => { results := [.lit (.bool true)], args := [d] }
  | _ => none }
def fnYarnPnPNeverEqualsConfigOptionsRow : OpenClaim := { program := "ytbebfpmnekbldaa", sum := "6f6d690fbc0f2a79778c69b57f14082c07793bd014703b2590613d3dfe5484f0", func := "github.com/evanw/esbuild/n011_58.FnYarnPnPNeverEqualsConfigOptions", spec := "fnYarnPnPNeverEqualsConfigOptions", inPlace := ["math.Float64bits"], recurses := true, apart := false }
def FnYarnPnPNeverEqualsConfigOptionsSaid : Prop := fnYarnPnPNeverEqualsConfigOptionsRow.holds Try.pinned (OpenSpec.ofChange fnYarnPnPNeverEqualsConfigOptionsSpec)

/-- ITS FALSE NEIGHBOUR: 'it returns false'. Refute it at one input. -/
def fnYarnPnPNeverEqualsConfigOptionsWrong : ChangeSpec := { name := "fnYarnPnPNeverEqualsConfigOptions", fn := fun _ => fun
  | [d] => { results := [.lit (.bool false)], args := [d] }
  | _ => none }
def FnYarnPnPNeverEqualsConfigOptionsWrongFalsely : Prop := fnYarnPnPNeverEqualsConfigOptionsRow.holds Try.pinned (OpenSpec.ofChange fnYarnPnPNeverEqualsConfigOptionsWrong)

/-- 'n011_58.FnEqualRegexpFieldsAgreeWithIsSameRegexp': WHATEVER THE INPUT: true; the input reads as it did. -/
def fnEqualRegexpFieldsAgreeWithIsSameRegexpSpec : ChangeSpec := { name := "fnEqualRegexpFieldsAgreeWithIsSameRegexp", fn := fun _ => fun
  | [d1, d2, d3, d4, d5] => { results := [.lit (.bool true)], args := [d1, d2, d3, d4, d5] }
  | _ => none }
def fnEqualRegexpFieldsAgreeWithIsSameRegexpRow : OpenClaim := { program := "ytbebfpmnekbldaa", sum := "6f6d690fbc0f2a79778c69b57f14082c07793bd014703b2590613d3dfe5484f0", func := "github.com/evanw/esbuild/n011_58.FnEqualRegexpFieldsAgreeWithIsSameRegexp", spec := "fnEqualRegexpFieldsAgreeWithIsSameRegexp", inPlace := ["math.Float64bits"], recurses := true, apart := false }
def FnEqualRegexpFieldsAgreeWithIsSameRegexpSaid : Prop := fnEqualRegexpFieldsAgreeWithIsSameRegexpRow.holds Try.pinned (OpenSpec.ofChange fnEqualRegexpFieldsAgreeWithIsSameRegexpSpec)

/-- ITS FALSE NEIGHBOUR: 'it returns false'. Refute it at one input. -/
def fnEqualRegexpFieldsAgreeWithIsSameRegexpWrong : ChangeSpec := { name := "fnEqualRegexpFieldsAgreeWithIsSameRegexp", fn := fun _ => fun
  | [d1, d2, d3, d4, d5] => { results := [.lit (.bool false)], args := [d1, d2, d3, d4, d5] }
  | _ => none }
def FnEqualRegexpFieldsAgreeWithIsSameRegexpWrongFalsely : Prop := fnEqualRegexpFieldsAgreeWithIsSameRegexpRow.holds Try.pinned (OpenSpec.ofChange fnEqualRegexpFieldsAgreeWithIsSameRegexpWrong)

/-- 'n011_58.FnEqualSymmetricTransitive': WHATEVER THE INPUT: true; the input reads as it did. -/
def fnEqualSymmetricTransitiveSpec : ChangeSpec := { name := "fnEqualSymmetricTransitive", fn := fun _ => fun
  | [d1, d2, d3] => { results := [.lit (.bool true)], args := [d1, d2, d3] }
  | _ => none }
def fnEqualSymmetricTransitiveRow : OpenClaim := { program := "ytbebfpmnekbldaa", sum := "6f6d690fbc0f2a79778c69b57f14082c07793bd014703b2590613d3dfe5484f0", func := "github.com/evanw/esbuild/n011_58.FnEqualSymmetricTransitive", spec := "fnEqualSymmetricTransitive", inPlace := ["math.Float64bits"], recurses := true, apart := false }
def FnEqualSymmetricTransitiveSaid : Prop := fnEqualSymmetricTransitiveRow.holds Try.pinned (OpenSpec.ofChange fnEqualSymmetricTransitiveSpec)

/-- ITS FALSE NEIGHBOUR: 'it returns false'. Refute it at one input. -/
def fnEqualSymmetricTransitiveWrong : ChangeSpec := { name := "fnEqualSymmetricTransitive", fn := fun _ => fun
  | [d1, d2, d3] => { results := [.lit (.bool false)], args := [d1, d2, d3] }
  | _ => none }
def FnEqualSymmetricTransitiveWrongFalsely : Prop := fnEqualSymmetricTransitiveRow.holds Try.pinned (OpenSpec.ofChange fnEqualSymmetricTransitiveWrong)

/- THE SECOND FORM. 'bulk': how many values and letters a reading holds, each counted each time it is reached (what is shared counts as often as it is met; a slice's spare places count too). A statement '..UptoSaid' is the law's where the arguments, and the package variables that the reading takes, are together of bulk at most 1048576: NARROWER than '..Said'. Prove '..Said' where nothing that the law and all that it calls make is longer than what came in: it says more and counts as full. Else prove '..UptoSaid'. A law counts once. -/
mutual
def uptoBulk {H : Type} : DataW H → Nat
  | .lit (.string bytes) => bytes.length + 1
  | .lit _ => 1
  | .nil => 1
  | .ptr d => uptoBulk d + 1
  | .slice elems spare => uptoBulkAll elems + uptoBulkAll spare + 1
  | .agg parts => uptoBulkAll parts + 1
  | .iface _ d => uptoBulk d + 1
  | .map entries => uptoBulkEntries entries + 1
  | .held _ => 1
def uptoBulkAll {H : Type} : List (DataW H) → Nat
  | [] => 0
  | d :: r => uptoBulk d + uptoBulkAll r
def uptoBulkEntries {H : Type} : List (Lit × DataW H) → Nat
  | [] => 0
  | x :: r => uptoBulkEntry x + uptoBulkEntries r
def uptoBulkEntry {H : Type} : Lit × DataW H → Nat
  | (.string bytes, d) => bytes.length + uptoBulk d + 1
  | (_, d) => uptoBulk d + 1
 end
def uptoSmall : (H : Type) → List (DataW H) → Bool := fun _ ds => decide (uptoBulkAll ds ≤ 1048576)
def OpenSpec.upto (s : _root_.Go.ChangeSpec) : _root_.Go.OpenSpec := { _root_.Go.OpenSpec.ofChange s with cond := some uptoSmall }

/-- 'n011_58.FnYarnPnPEqualityTable', WHERE WHAT IT READS IS OF BULK AT MOST 1048576: true; the input reads as it did. -/
def fnYarnPnPEqualityTableUptoRow : OpenClaim := { program := "ytbebfpmnekbldaa", sum := "6f6d690fbc0f2a79778c69b57f14082c07793bd014703b2590613d3dfe5484f0", func := "github.com/evanw/esbuild/n011_58.FnYarnPnPEqualityTable", spec := "fnYarnPnPEqualityTable", inPlace := ["math.Float64bits"], recurses := true, apart := false, narrowed := true }
def FnYarnPnPEqualityTableUptoSaid : Prop := fnYarnPnPEqualityTableUptoRow.holds Try.pinned (OpenSpec.upto fnYarnPnPEqualityTableSpec)

/-- 'n011_58.FnYarnPnPNeverEqualsConfigOptions', WHERE WHAT IT READS IS OF BULK AT MOST 1048576: true; the input reads as it did. -/
def fnYarnPnPNeverEqualsConfigOptionsUptoRow : OpenClaim := { program := "ytbebfpmnekbldaa", sum := "6f6d690fbc0f2a79778c69b57f14082c07793bd014703b2590613d3dfe5484f0", func := "github.com/evanw/esbuild/n011_58.FnYarnPnPNeverEqualsConfigOptions", spec := "fnYarnPnPNeverEqualsConfigOptions", inPlace := ["math.Float64bits"], recurses := true, apart := false, narrowed := true }
def FnYarnPnPNeverEqualsConfigOptionsUptoSaid : Prop := fnYarnPnPNeverEqualsConfigOptionsUptoRow.holds Try.pinned (OpenSpec.upto fnYarnPnPNeverEqualsConfigOptionsSpec)

/-- 'n011_58.FnEqualRegexpFieldsAgreeWithIsSameRegexp', WHERE WHAT IT READS IS OF BULK AT MOST 1048576: true; the input reads as it did. -/
def fnEqualRegexpFieldsAgreeWithIsSameRegexpUptoRow : OpenClaim := { program := "ytbebfpmnekbldaa", sum := "6f6d690fbc0f2a79778c69b57f14082c07793bd014703b2590613d3dfe5484f0", func := "github.com/evanw/esbuild/n011_58.FnEqualRegexpFieldsAgreeWithIsSameRegexp", spec := "fnEqualRegexpFieldsAgreeWithIsSameRegexp", inPlace := ["math.Float64bits"], recurses := true, apart := false, narrowed := true }
def FnEqualRegexpFieldsAgreeWithIsSameRegexpUptoSaid : Prop := fnEqualRegexpFieldsAgreeWithIsSameRegexpUptoRow.holds Try.pinned (OpenSpec.upto fnEqualRegexpFieldsAgreeWithIsSameRegexpSpec)

/-- 'n011_58.FnEqualSymmetricTransitive', WHERE WHAT IT READS IS OF BULK AT MOST 1048576: true; the input reads as it did. -/
def fnEqualSymmetricTransitiveUptoRow : OpenClaim := { program := "ytbebfpmnekbldaa", sum := "6f6d690fbc0f2a79778c69b57f14082c07793bd014703b2590613d3dfe5484f0", func := "github.com/evanw/esbuild/n011_58.FnEqualSymmetricTransitive", spec := "fnEqualSymmetricTransitive", inPlace := ["math.Float64bits"], recurses := true, apart := false, narrowed := true }
def FnEqualSymmetricTransitiveUptoSaid : Prop := fnEqualSymmetricTransitiveUptoRow.holds Try.pinned (OpenSpec.upto fnEqualSymmetricTransitiveSpec)

end Rows
end Go.Proofs.Ytbebfpmnekbldaa
