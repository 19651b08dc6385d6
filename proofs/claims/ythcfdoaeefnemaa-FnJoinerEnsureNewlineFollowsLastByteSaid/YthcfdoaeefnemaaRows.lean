/-
  No cell of these rows narrows 'for every input' (looked for: loops, veiled, ifaces, maps, wideKeys, modest, calm, conditions, laid).
  DERIVED. THE GIVEN ROWS OF THIS SEAT. 4 by the template 'for every input the law returns true; each argument reads behind the call as it read before'; 0 by the template 'total and deterministic' (their statements: YthcfdoaeefnemaaTotals.lean).
  GIVEN WITH THE SEED: the statements are not yours to turn. If you find one false, say at which input.
  Laid BY PROGRAM, IN A SANDBOX (cutbox-rows.mjs): the forced cells as the released guide's own fill.sh prints them over the translation d9f2cd831c15c421… (all of the seat's roots in one cut). By AI agents, Wed Nov 11 2026. No macro, syntax, notation, axiom, sorry.
-/
import Derived.Test.YthcfdoaeefnemaaChecked
import GoSem.Claim
import GoSem.ClaimJoined
import GoSem.ClaimMapViews
import Derived.JoinedTies
import Derived.KernelRfl
namespace Go.Proofs.Ythcfdoaeefnemaa
/- THE CELL 'sum', in the pinned program and in every row, IS THE sha256 OF THE DUMP (.gsa) THAT YthcfdoaeefnemaaProg.lean LOADS. Nothing in Lean hashes anything: it is a label: what it is worth is what the hold of that sum in a sandbox is worth. -/
noncomputable def Try.pinned : Pinned := { name := "ythcfdoaeefnemaa", sum := "d9f2cd831c15c4217ec19d1c962d0c4591c4df24eb460be629d62ed168708b64", checked := Try.checked }
namespace Rows
def none {H : Type} : Left H := { results := [], args := [] }

/-- 'n011_141.FnJoinerAddStringDoneIsConcat': WHATEVER THE INPUT: true; the input reads as it did. -/
def fnJoinerAddStringDoneIsConcatSpec : ChangeSpec := { name := "fnJoinerAddStringDoneIsConcat", fn := fun _ => fun
  | [d] => { results := [.lit (.bool true)], args := [d] }
  | _ => none }
def fnJoinerAddStringDoneIsConcatRow : OpenClaim := { program := "ythcfdoaeefnemaa", sum := "d9f2cd831c15c4217ec19d1c962d0c4591c4df24eb460be629d62ed168708b64", func := "github.com/evanw/esbuild/n011_141.FnJoinerAddStringDoneIsConcat", spec := "fnJoinerAddStringDoneIsConcat", apart := false }
def FnJoinerAddStringDoneIsConcatSaid : Prop := fnJoinerAddStringDoneIsConcatRow.holds Try.pinned (OpenSpec.ofChange fnJoinerAddStringDoneIsConcatSpec)

/-- ITS FALSE NEIGHBOUR: 'it returns false'. Refute it at one input. -/
def fnJoinerAddStringDoneIsConcatWrong : ChangeSpec := { name := "fnJoinerAddStringDoneIsConcat", fn := fun _ => fun
  | [d] => { results := [.lit (.bool false)], args := [d] }
  | _ => none }
def FnJoinerAddStringDoneIsConcatWrongFalsely : Prop := fnJoinerAddStringDoneIsConcatRow.holds Try.pinned (OpenSpec.ofChange fnJoinerAddStringDoneIsConcatWrong)

/-- 'n011_141.FnJoinerAddStringEmptyPartsChangeNothing': WHATEVER THE INPUT: true; the input reads as it did. -/
def fnJoinerAddStringEmptyPartsChangeNothingSpec : ChangeSpec := { name := "fnJoinerAddStringEmptyPartsChangeNothing", fn := fun _ => fun
  | [d] => { results := [.lit (.bool true)], args := [d] }
  | _ => none }
def fnJoinerAddStringEmptyPartsChangeNothingRow : OpenClaim := { program := "ythcfdoaeefnemaa", sum := "d9f2cd831c15c4217ec19d1c962d0c4591c4df24eb460be629d62ed168708b64", func := "github.com/evanw/esbuild/n011_141.FnJoinerAddStringEmptyPartsChangeNothing", spec := "fnJoinerAddStringEmptyPartsChangeNothing", apart := false }
def FnJoinerAddStringEmptyPartsChangeNothingSaid : Prop := fnJoinerAddStringEmptyPartsChangeNothingRow.holds Try.pinned (OpenSpec.ofChange fnJoinerAddStringEmptyPartsChangeNothingSpec)

/-- ITS FALSE NEIGHBOUR: 'it returns false'. Refute it at one input. -/
def fnJoinerAddStringEmptyPartsChangeNothingWrong : ChangeSpec := { name := "fnJoinerAddStringEmptyPartsChangeNothing", fn := fun _ => fun
  | [d] => { results := [.lit (.bool false)], args := [d] }
  | _ => none }
def FnJoinerAddStringEmptyPartsChangeNothingWrongFalsely : Prop := fnJoinerAddStringEmptyPartsChangeNothingRow.holds Try.pinned (OpenSpec.ofChange fnJoinerAddStringEmptyPartsChangeNothingWrong)

/-- 'n011_141.FnJoinerEnsureNewlineFollowsLastByte': WHATEVER THE INPUT: true; the input reads as it did. -/
def fnJoinerEnsureNewlineFollowsLastByteSpec : ChangeSpec := { name := "fnJoinerEnsureNewlineFollowsLastByte", fn := fun _ => fun
  | [d1, d2] => { results := [.lit (.bool true)], args := [d1, d2] }
  | _ => none }
def fnJoinerEnsureNewlineFollowsLastByteRow : OpenClaim := { program := "ythcfdoaeefnemaa", sum := "d9f2cd831c15c4217ec19d1c962d0c4591c4df24eb460be629d62ed168708b64", func := "github.com/evanw/esbuild/n011_141.FnJoinerEnsureNewlineFollowsLastByte", spec := "fnJoinerEnsureNewlineFollowsLastByte", apart := false }
def FnJoinerEnsureNewlineFollowsLastByteSaid : Prop := fnJoinerEnsureNewlineFollowsLastByteRow.holds Try.pinned (OpenSpec.ofChange fnJoinerEnsureNewlineFollowsLastByteSpec)

/-- ITS FALSE NEIGHBOUR: 'it returns false'. Refute it at one input. -/
def fnJoinerEnsureNewlineFollowsLastByteWrong : ChangeSpec := { name := "fnJoinerEnsureNewlineFollowsLastByte", fn := fun _ => fun
  | [d1, d2] => { results := [.lit (.bool false)], args := [d1, d2] }
  | _ => none }
def FnJoinerEnsureNewlineFollowsLastByteWrongFalsely : Prop := fnJoinerEnsureNewlineFollowsLastByteRow.holds Try.pinned (OpenSpec.ofChange fnJoinerEnsureNewlineFollowsLastByteWrong)

/-- 'n011_141.FnJoinerLastByteIsLastOfOutput': WHATEVER THE INPUT: true; the input reads as it did. -/
def fnJoinerLastByteIsLastOfOutputSpec : ChangeSpec := { name := "fnJoinerLastByteIsLastOfOutput", fn := fun _ => fun
  | [d1, d2] => { results := [.lit (.bool true)], args := [d1, d2] }
  | _ => none }
def fnJoinerLastByteIsLastOfOutputRow : OpenClaim := { program := "ythcfdoaeefnemaa", sum := "d9f2cd831c15c4217ec19d1c962d0c4591c4df24eb460be629d62ed168708b64", func := "github.com/evanw/esbuild/n011_141.FnJoinerLastByteIsLastOfOutput", spec := "fnJoinerLastByteIsLastOfOutput", apart := false }
def FnJoinerLastByteIsLastOfOutputSaid : Prop := fnJoinerLastByteIsLastOfOutputRow.holds Try.pinned (OpenSpec.ofChange fnJoinerLastByteIsLastOfOutputSpec)

/-- ITS FALSE NEIGHBOUR: 'it returns false'. Refute it at one input. -/
def fnJoinerLastByteIsLastOfOutputWrong : ChangeSpec := { name := "fnJoinerLastByteIsLastOfOutput", fn := fun _ => fun
  | [d1, d2] => { results := [.lit (.bool false)], args := [d1, d2] }
  | _ => none }
def FnJoinerLastByteIsLastOfOutputWrongFalsely : Prop := fnJoinerLastByteIsLastOfOutputRow.holds Try.pinned (OpenSpec.ofChange fnJoinerLastByteIsLastOfOutputWrong)

/- THE SECOND FORM. 'bulk': how many values and letters a reading holds, each counted each time it is reached (what is shared counts as often as it is met; a slice's spare places count too). A statement '..UptoSaid' is the law's where the arguments, and the package variables that the reading takes, are together of bulk at most 1048576: NARROWER than '..Said'. Prove '..Said' where nothing that the law and all that it calls make is longer than what came in: it says more and counts as full. Else prove '..UptoSaid'. A law counts once. -/
mutual
def uptoBulk {H : Type} : DataW H → Nat
  | .lit (.string bytes) => bytes.length + 1
  | .lit _ => 1
  | .nil => 1
  | .ptr d => uptoBulk d + 1
  | .slice elems spare => uptoBulkAll elems + uptoBulkAll spare + 1
  | .agg parts => uptoBulkAll parts + 1
  | .iface _ d => uptoBulk d + 1
  | .map entries => uptoBulkEntries entries + 1
  | .held _ => 1
def uptoBulkAll {H : Type} : List (DataW H) → Nat
  | [] => 0
  | d :: r => uptoBulk d + uptoBulkAll r
def uptoBulkEntries {H : Type} : List (Lit × DataW H) → Nat
  | [] => 0
  | x :: r => uptoBulkEntry x + uptoBulkEntries r
def uptoBulkEntry {H : Type} : Lit × DataW H → Nat
  | (.string bytes, d) => bytes.length + uptoBulk d + 1
  | (_, d) => uptoBulk d + 1
 end
def uptoSmall : (H : Type) → List (DataW H) → Bool := fun _ ds => decide (uptoBulkAll ds ≤ 1048576)
def OpenSpec.upto (s : _root_.Go.ChangeSpec) : _root_.Go.OpenSpec := { _root_.Go.OpenSpec.ofChange s with cond := some uptoSmall }

/-- 'n011_141.FnJoinerAddStringDoneIsConcat', WHERE WHAT IT READS IS OF BULK AT MOST 1048576: true; the input reads as it did. -/
def fnJoinerAddStringDoneIsConcatUptoRow : OpenClaim := { program := "ythcfdoaeefnemaa", sum := "d9f2cd831c15c4217ec19d1c962d0c4591c4df24eb460be629d62ed168708b64", func := "github.com/evanw/esbuild/n011_141.FnJoinerAddStringDoneIsConcat", spec := "fnJoinerAddStringDoneIsConcat", apart := false, narrowed := true }
def FnJoinerAddStringDoneIsConcatUptoSaid : Prop := fnJoinerAddStringDoneIsConcatUptoRow.holds Try.pinned (OpenSpec.upto fnJoinerAddStringDoneIsConcatSpec)

/-- 'n011_141.FnJoinerAddStringEmptyPartsChangeNothing', WHERE WHAT IT READS IS OF BULK AT MOST 1048576: true; the input reads as it did. -/
def fnJoinerAddStringEmptyPartsChangeNothingUptoRow : OpenClaim := { program := "ythcfdoaeefnemaa", sum := "d9f2cd831c15c4217ec19d1c962d0c4591c4df24eb460be629d62ed168708b64", func := "github.com/evanw/esbuild/n011_141.FnJoinerAddStringEmptyPartsChangeNothing", spec := "fnJoinerAddStringEmptyPartsChangeNothing", apart := false, narrowed := true }
def FnJoinerAddStringEmptyPartsChangeNothingUptoSaid : Prop := fnJoinerAddStringEmptyPartsChangeNothingUptoRow.holds Try.pinned (OpenSpec.upto fnJoinerAddStringEmptyPartsChangeNothingSpec)

/-- 'n011_141.FnJoinerEnsureNewlineFollowsLastByte', WHERE WHAT IT READS IS OF BULK AT MOST 1048576: true; the input reads as it did. -/
def fnJoinerEnsureNewlineFollowsLastByteUptoRow : OpenClaim := { program := "ythcfdoaeefnemaa", sum := "d9f2cd831c15c4217ec19d1c962d0c4591c4df24eb460be629d62ed168708b64", func := "github.com/evanw/esbuild/n011_141.FnJoinerEnsureNewlineFollowsLastByte", spec := "fnJoinerEnsureNewlineFollowsLastByte", apart := false, narrowed := true }
def FnJoinerEnsureNewlineFollowsLastByteUptoSaid : Prop := fnJoinerEnsureNewlineFollowsLastByteUptoRow.holds Try.pinned (OpenSpec.upto fnJoinerEnsureNewlineFollowsLastByteSpec)

/-- 'n011_141.FnJoinerLastByteIsLastOfOutput', WHERE WHAT IT READS IS OF BULK AT MOST 1048576: true; the input reads as it did. -/
def fnJoinerLastByteIsLastOfOutputUptoRow : OpenClaim := { program := "ythcfdoaeefnemaa", sum := "d9f2cd831c15c4217ec19d1c962d0c4591c4df24eb460be629d62ed168708b64", func := "github.com/evanw/esbuild/n011_141.FnJoinerLastByteIsLastOfOutput", spec := "fnJoinerLastByteIsLastOfOutput", apart := false, narrowed := true }
def FnJoinerLastByteIsLastOfOutputUptoSaid : Prop := fnJoinerLastByteIsLastOfOutputUptoRow.holds Try.pinned (OpenSpec.upto fnJoinerLastByteIsLastOfOutputSpec)

end Rows
end Go.Proofs.Ythcfdoaeefnemaa
