/-
  No cell of these rows narrows 'for every input' (looked for: loops, veiled, ifaces, maps, wideKeys, modest, calm, conditions, laid).
  DERIVED. THE GIVEN ROWS OF THIS SEAT. 4 by the template 'for every input the law returns true; each argument reads behind the call as it read before'; 0 by the template 'total and deterministic' (their statements: YtchmlhlpchbnoaaTotals.lean).
  GIVEN WITH THE SEED: the statements are not yours to turn. If you find one false, say at which input.
  Laid BY PROGRAM, IN A SANDBOX (cutbox-rows.mjs): the forced cells as the released guide's own fill.sh prints them over the translation 82c590aebc82e7e8… (all of the seat's roots in one cut). By AI agents, Wed Nov 11 2026. No macro, syntax, notation, axiom, sorry.
-/
import Derived.Test.YtchmlhlpchbnoaaChecked
import GoSem.Claim
import GoSem.ClaimJoined
import GoSem.ClaimMapViews
import Derived.JoinedTies
import Derived.KernelRfl
namespace Go.Proofs.Ytchmlhlpchbnoaa
/- THE CELL 'sum', in the pinned program and in every row, IS THE sha256 OF THE DUMP (.gsa) THAT YtchmlhlpchbnoaaProg.lean LOADS. Nothing in Lean hashes anything: it is a label: what it is worth is what the hold of that sum in a sandbox is worth. -/
noncomputable def Try.pinned : Pinned := { name := "ytchmlhlpchbnoaa", sum := "82c590aebc82e7e86442721fca3eada9f01466243c32591b3a2d957c67d6151f", checked := Try.checked }
namespace Rows
def none {H : Type} : Left H := { results := [], args := [] }

/-- 'n011_17.FnMakeIndependent': WHATEVER THE INPUT: true; the input reads as it did. -/
def fnMakeIndependentSpec : ChangeSpec := { name := "fnMakeIndependent", fn := fun _ => fun
  | [d] => { results := [.lit (.bool true)], args := [d] }
  | _ => none }
def fnMakeIndependentRow : OpenClaim := { program := "ytchmlhlpchbnoaa", sum := "82c590aebc82e7e86442721fca3eada9f01466243c32591b3a2d957c67d6151f", func := "github.com/evanw/esbuild/n011_17.FnMakeIndependent", spec := "fnMakeIndependent", inPlace := ["sync/atomic.AddInt32"], apart := false }
def FnMakeIndependentSaid : Prop := fnMakeIndependentRow.holds Try.pinned (OpenSpec.ofChange fnMakeIndependentSpec)

/-- ITS FALSE NEIGHBOUR: 'it returns false'. Refute it at one input. -/
def fnMakeIndependentWrong : ChangeSpec := { name := "fnMakeIndependent", fn := fun _ => fun
  | [d] => { results := [.lit (.bool false)], args := [d] }
  | _ => none }
def FnMakeIndependentWrongFalsely : Prop := fnMakeIndependentRow.holds Try.pinned (OpenSpec.ofChange fnMakeIndependentWrong)

/-- 'n011_17.FnWaitConsumesOneToken': WHATEVER THE INPUT: true; the input reads as it did. -/
def fnWaitConsumesOneTokenSpec : ChangeSpec := { name := "fnWaitConsumesOneToken", fn := fun _ => fun
  | [d] => { results := [.lit (.bool true)], args := [d] }
  | _ => none }
def fnWaitConsumesOneTokenRow : OpenClaim := { program := "ytchmlhlpchbnoaa", sum := "82c590aebc82e7e86442721fca3eada9f01466243c32591b3a2d957c67d6151f", func := "github.com/evanw/esbuild/n011_17.FnWaitConsumesOneToken", spec := "fnWaitConsumesOneToken", inPlace := ["sync/atomic.AddInt32"], apart := false }
def FnWaitConsumesOneTokenSaid : Prop := fnWaitConsumesOneTokenRow.holds Try.pinned (OpenSpec.ofChange fnWaitConsumesOneTokenSpec)

/-- ITS FALSE NEIGHBOUR: 'it returns false'. Refute it at one input. -/
def fnWaitConsumesOneTokenWrong : ChangeSpec := { name := "fnWaitConsumesOneToken", fn := fun _ => fun
  | [d] => { results := [.lit (.bool false)], args := [d] }
  | _ => none }
def FnWaitConsumesOneTokenWrongFalsely : Prop := fnWaitConsumesOneTokenRow.holds Try.pinned (OpenSpec.ofChange fnWaitConsumesOneTokenWrong)

/-- 'n011_17.FnDoneReleasesAfterN': WHATEVER THE INPUT: true; the input reads as it did. -/
def fnDoneReleasesAfterNSpec : ChangeSpec := { name := "fnDoneReleasesAfterN", fn := fun _ => fun
  | [d] => { results := [.lit (.bool true)], args := [d] }
  | _ => none }
def fnDoneReleasesAfterNRow : OpenClaim := { program := "ytchmlhlpchbnoaa", sum := "82c590aebc82e7e86442721fca3eada9f01466243c32591b3a2d957c67d6151f", func := "github.com/evanw/esbuild/n011_17.FnDoneReleasesAfterN", spec := "fnDoneReleasesAfterN", inPlace := ["sync/atomic.AddInt32"], apart := false }
def FnDoneReleasesAfterNSaid : Prop := fnDoneReleasesAfterNRow.holds Try.pinned (OpenSpec.ofChange fnDoneReleasesAfterNSpec)

/-- ITS FALSE NEIGHBOUR: 'it returns false'. Refute it at one input. -/
def fnDoneReleasesAfterNWrong : ChangeSpec := { name := "fnDoneReleasesAfterN", fn := fun _ => fun
  | [d] => { results := [.lit (.bool false)], args := [d] }
  | _ => none }
def FnDoneReleasesAfterNWrongFalsely : Prop := fnDoneReleasesAfterNRow.holds Try.pinned (OpenSpec.ofChange fnDoneReleasesAfterNWrong)

/-- 'n011_17.FnAddScriptMatchesModel': WHATEVER THE INPUT: true; the input reads as it did. -/
def fnAddScriptMatchesModelSpec : ChangeSpec := { name := "fnAddScriptMatchesModel", fn := fun _ => fun
  | [d] => { results := [.lit (.bool true)], args := [d] }
  | _ => none }
def fnAddScriptMatchesModelRow : OpenClaim := { program := "ytchmlhlpchbnoaa", sum := "82c590aebc82e7e86442721fca3eada9f01466243c32591b3a2d957c67d6151f", func := "github.com/evanw/esbuild/n011_17.FnAddScriptMatchesModel", spec := "fnAddScriptMatchesModel", inPlace := ["sync/atomic.AddInt32"], apart := false }
def FnAddScriptMatchesModelSaid : Prop := fnAddScriptMatchesModelRow.holds Try.pinned (OpenSpec.ofChange fnAddScriptMatchesModelSpec)

/-- ITS FALSE NEIGHBOUR: 'it returns false'. Refute it at one input. -/
def fnAddScriptMatchesModelWrong : ChangeSpec := { name := "fnAddScriptMatchesModel", fn := fun _ => fun
  | [d] => { results := [.lit (.bool false)], args := [d] }
  | _ => none }
def FnAddScriptMatchesModelWrongFalsely : Prop := fnAddScriptMatchesModelRow.holds Try.pinned (OpenSpec.ofChange fnAddScriptMatchesModelWrong)

/- THE SECOND FORM. 'bulk': how many values and letters a reading holds, each counted each time it is reached (what is shared counts as often as it is met; a slice's spare places count too). A statement '..UptoSaid' is the law's where the arguments, and the package variables that the reading takes, are together of bulk at most 1048576: NARROWER than '..Said'. Prove '..Said' where nothing that the law and all that it calls make is longer than what came in: it says more and counts as full. Else prove '..UptoSaid'. A law counts once. -/
mutual
def uptoBulk {H : Type} : DataW H → Nat
  | .lit (.string bytes) => bytes.length + 1
  | .lit _ => 1
  | .nil => 1
  | .ptr d => uptoBulk d + 1
  | .slice elems spare => uptoBulkAll elems + uptoBulkAll spare + 1
  | .agg parts => uptoBulkAll parts + 1
  | .iface _ d => uptoBulk d + 1
  | .map entries => uptoBulkEntries entries + 1
  | .held _ => 1
def uptoBulkAll {H : Type} : List (DataW H) → Nat
  | [] => 0
  | d :: r => uptoBulk d + uptoBulkAll r
def uptoBulkEntries {H : Type} : List (Lit × DataW H) → Nat
  | [] => 0
  | x :: r => uptoBulkEntry x + uptoBulkEntries r
def uptoBulkEntry {H : Type} : Lit × DataW H → Nat
  | (.string bytes, d) => bytes.length + uptoBulk d + 1
  | (_, d) => uptoBulk d + 1
 end
def uptoSmall : (H : Type) → List (DataW H) → Bool := fun _ ds => decide (uptoBulkAll ds ≤ 1048576)
def OpenSpec.upto (s : _root_.Go.ChangeSpec) : _root_.Go.OpenSpec := { _root_.Go.OpenSpec.ofChange s with cond := some uptoSmall }

/-- 'n011_17.FnMakeIndependent', WHERE WHAT IT READS IS OF BULK AT MOST 1048576: true; the input reads as it did. -/
def fnMakeIndependentUptoRow : OpenClaim := { program := "ytchmlhlpchbnoaa", sum := "82c590aebc82e7e86442721fca3eada9f01466243c32591b3a2d957c67d6151f", func := "github.com/evanw/esbuild/n011_17.FnMakeIndependent", spec := "fnMakeIndependent", inPlace := ["sync/atomic.AddInt32"], apart := false, narrowed := true }
def FnMakeIndependentUptoSaid : Prop := fnMakeIndependentUptoRow.holds Try.pinned (OpenSpec.upto fnMakeIndependentSpec)

/-- 'n011_17.FnWaitConsumesOneToken', WHERE WHAT IT READS IS OF BULK AT MOST 1048576: true; the input reads as it did. -/
def fnWaitConsumesOneTokenUptoRow : OpenClaim := { program := "ytchmlhlpchbnoaa", sum := "82c590aebc82e7e86442721fca3eada9f01466243c32591b3a2d957c67d6151f", func := "github.com/evanw/esbuild/n011_17.FnWaitConsumesOneToken", spec := "fnWaitConsumesOneToken", inPlace := ["sync/atomic.AddInt32"], apart := false, narrowed := true }
def FnWaitConsumesOneTokenUptoSaid : Prop := fnWaitConsumesOneTokenUptoRow.holds Try.pinned (OpenSpec.upto fnWaitConsumesOneTokenSpec)

/-- 'n011_17.FnDoneReleasesAfterN', WHERE WHAT IT READS IS OF BULK AT MOST 1048576: true; the input reads as it did. -/
def fnDoneReleasesAfterNUptoRow : OpenClaim := { program := "ytchmlhlpchbnoaa", sum := "82c590aebc82e7e86442721fca3eada9f01466243c32591b3a2d957c67d6151f", func := "github.com/evanw/esbuild/n011_17.FnDoneReleasesAfterN", spec := "fnDoneReleasesAfterN", inPlace := ["sync/atomic.AddInt32"], apart := false, narrowed := true }
def FnDoneReleasesAfterNUptoSaid : Prop := fnDoneReleasesAfterNUptoRow.holds Try.pinned (OpenSpec.upto fnDoneReleasesAfterNSpec)

/-- 'n011_17.FnAddScriptMatchesModel', WHERE WHAT IT READS IS OF BULK AT MOST 1048576: true; the input reads as it did. -/
def fnAddScriptMatchesModelUptoRow : OpenClaim := { program := "ytchmlhlpchbnoaa", sum := "82c590aebc82e7e86442721fca3eada9f01466243c32591b3a2d957c67d6151f", func := "github.com/evanw/esbuild/n011_17.FnAddScriptMatchesModel", spec := "fnAddScriptMatchesModel", inPlace := ["sync/atomic.AddInt32"], apart := false, narrowed := true }
def FnAddScriptMatchesModelUptoSaid : Prop := fnAddScriptMatchesModelUptoRow.holds Try.pinned (OpenSpec.upto fnAddScriptMatchesModelSpec)

end Rows
end Go.Proofs.Ytchmlhlpchbnoaa
