/-
  Proved: for every extension text FnMimeTypeByExtensionMatchesTable returns true and leaves its argument and the table as they were (the tied card). No condition beyond the listed variables.
-/
import Derived.Test.YtkanbfphbgoekaaDoorTie
import Derived.Test.YtkanbfphbgoekaaDoorCards
import Derived.Test.YtkanbfphbgoekaaDoorWl
import Derived.WalkKit
import Derived.ProofKit
import Derived.OpenShut
import Derived.ShutString
import Derived.ChangeOld
import Derived.Below
import Derived.LaidMore
import Derived.Lay
import Derived.Stop.Joined
import Derived.OpenVars
import Derived.ChangeVars
import Derived.SevenTiedAt
namespace Go.Proofs.YtkanbfphbgoekaaDoor.fnMimeTypeByExtensionMatchesTable
open Go.ChangeShapes Go.WideShapes Go.ChangeAt Go.RowKit
open Go.ChangeMaps (open_string shut_string)
open Go.Proofs.YtkanbfphbgoekaaDoor.mi
set_option linter.unusedVariables false

theorem own : ownKnob Tryd.prog.godebug = none := by kernel_rfl
theorem laidOut : laidOutB Tryd.prog = true := by kernel_rfl
def great : List String := ["unicode.CaseRanges", "unicode/utf8.first"]
noncomputable def w0 (os : Os) : World := World.doorLaid Tryd.prog 400 os
noncomputable def w1 (os : Os) : World := (w0 os).layVars Tryd.prog (lay.filter fun x => great.contains x.1)
noncomputable def B (os : Os) : List Nat := (List.range (w0 os).heap.size).filter fun b => b != 1 && b != 3
theorem laidIn (os : Os) (args : Array Value) : LaidIn Tryd.prog ((w1 os).forCall (fun _ _ => 0) ⟨#[], args, []⟩).memory (lay.filter fun x => !great.contains x.1) (B os) :=
  LaidIn.of_run (B os) 8 (by kernel_rfl) (by kernel_rfl) (by kernel_rfl) (by kernel_rfl)
theorem w1_met (os : Os) (args : Array Value) : laidMetH Tryd.prog lay ((w1 os).forCall (fun _ _ => 0) ⟨#[], args, []⟩).memory := by
  rw [MakeChecks.laidMetH_plain _ _ _ (by kernel_rfl)]
  exact laidMet_layVars (w0 := w0 os) great (B os) (by simp [World.memory, World.forCall, Input.heap, w1]) (by kernel_rfl) (by kernel_rfl) (laidIn os args)
set_option maxRecDepth 100000 in
theorem lifted (os : Os) (started : os.Started) (H : Type) (enc : TypeId × Value → H) :
    ReturnsInHanded {} Tryd.checked os 4 .any (fun w args => (Rows.fnMimeTypeByExtensionMatchesTableSpec.pre enc Tryd.prog Tryd.f4 [] false w args ∧ laidMetH Tryd.prog lay w) ∧ sizedMet enc Tryd.prog Tryd.f4 (OpenSpec.ofChange Rows.fnMimeTypeByExtensionMatchesTableSpec) false w args)
      (Rows.fnMimeTypeByExtensionMatchesTableSpec.post enc Tryd.prog Tryd.f4 false true false false) := by
  refine returnsInHanded_of_change_and (C := Tryd.checked) (X := fun w _ => laidMetH Tryd.prog lay w) (fun _ _ _ hh h => h.of_heap hh) own started (by kernel_rfl) Tryd.func4
    (ChangeSpec.witness_shaped (enc := enc) (C := Tryd.checked) (os := os) (X := fun w _ => laidMetH Tryd.prog lay w) false (w1 os) #[.string ByteArray.empty] 8 ((World.layVars_os _ _ _).trans rfl)
      (World.shaped_of_ZipB (by kernel_rfl) (by kernel_rfl)) (by kernel_rfl) (by kernel_rfl) (by kernel_rfl) (w1_met os _)) ?_
  intro W base args ds gs before hval0 hW _ _ hL _
  have hval : ∀ (j : Nat) t v, Tryd.f4.params[j]? = some t → args[j]? = some v → Value.okWide Tryd.prog W .any base t v := hval0
  have hW' := hW
  obtain ⟨p, q, hA0, hV, rfl, hfz, hnd⟩ := hW
  have hA : DataW.TrodAll enc Tryd.prog W 0 (fun _ => true) true Tryd.f4.params.toList args.toList ds p := hA0
  rw [Tryd.params4] at hA hval
  obtain ⟨v0, d0, rfl, rfl, h0⟩ := trodAll_one hA
  obtain ⟨g, t, cs, fuel, dg, pg, rfl, hg, ht, hv, hd, rfl⟩ := trodVars_one hV
  obtain ⟨a0, rfl, rfl, rfl, wz0⟩ := open_string Tryd.underlying9 (hval 0 9 v0 rfl rfl) h0
  clear hA0 hval0
  refine (law17 W a0 (of_laid hL)).mono fun e W' ⟨he, bel⟩ => ?_
  subst he
  exact ⟨_, rfl, _, _, _, [], _, _, hW', trodAll_mk1 (shut_bool Tryd.underlying4 _), trodAll_mk1 (shut_string Tryd.underlying9 wz0), Below.trodVars laidOut bel (by kernel_rfl) hV, bel.frame _, fun h => by cases h⟩

theorem over : Rows.fnMimeTypeByExtensionMatchesTableRow.holds Tryd.pinned (OpenSpec.ofChange Rows.fnMimeTypeByExtensionMatchesTableSpec) :=
  OpenClaim.holds_of_wide 4 Tryd.f4 rfl rfl rfl rfl rfl rfl rfl ⟨rfl, rfl, rfl, rfl, rfl⟩ rfl rfl rfl rfl rfl (by kernel_rfl) Tryd.func4 (by kernel_rfl)
    (of_decide_eq_true (by kernel_rfl)) (by unfold Func.isWrapper; first | (rw [if_pos (by decide +kernel)]; kernel_rfl) | (rw [if_neg (by decide +kernel)]; exact ⟨rfl, rfl⟩))
    (fun os started H enc _ => lifted os started H enc)

theorem proved : Rows.FnMimeTypeByExtensionMatchesTableCardSaid :=
  Claim7.holds_tied_plain_at .later [] [.data, .mapped, .pinned, .pinned] true (true, "2ace8827cbda153747c27d06c998ea1272d89417f2cf569b6228a1f645513b72") false
    over (fun _ h => by cases h) (by kernel_rfl) (fun _ h => by cases h) fnMimeTypeByExtensionMatchesTable_row_tie rfl ⟨rfl, rfl⟩ (by kernel_rfl) rfl
    (fun f fn hf hfn => by
      obtain rfl : f = 4 := Option.some.inj ((show Tryd.prog.funcNamed "github.com/evanw/esbuild/n011_167.FnMimeTypeByExtensionMatchesTable" = some 4 by kernel_rfl).symm.trans hf) |>.symm
      obtain rfl : fn = Tryd.f4 := (Option.some.inj (Tryd.func4.symm.trans hfn)).symm
      exact ⟨by kernel_rfl, fun j t ht => by
        rw [Tryd.params4] at ht
        have hm : t ∈ [9] := by simpa using Array.mem_of_getElem? ht
        have hall : ([9].all fun u => !Tryd.prog.wantsStandIn u) = true := by kernel_rfl
        exact (show Tryd.prog.wantsStandIn t = false by simpa using List.all_eq_true.1 hall t hm)⟩)
    (by kernel_rfl)
#print axioms proved
end Go.Proofs.YtkanbfphbgoekaaDoor.fnMimeTypeByExtensionMatchesTable
