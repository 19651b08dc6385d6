/-
  FnMergeSymbolsUnitesExactlyTheTwoClasses: over every acyclic link table with old and new in range, mergeSymbols joins exactly the two classes. The frame and the card.
-/
import Derived.Test.YtnemldibhdphoaaDoorTie
import Derived.Test.YtnemldibhdphoaaDoorCards
import Derived.Test.YtnemldibhdphoaaDoorLw
import Derived.WalkKit
import Derived.ProofKit
import Derived.OpenShut
import Derived.ShutString
import Derived.ChangeOld
import Derived.Below
import Derived.LaidMore
import Derived.MakeChecks
import Derived.Stop.Joined
import Derived.OpenVars
import Derived.ChangeVars
import Derived.ChangeSame
import Derived.FnData
import Derived.SevenTiedAt
namespace Go.Proofs.YtnemldibhdphoaaDoor.fnMergeSymbolsUnitesExactlyTheTwoClasses
open Go.ChangeShapes Go.WideShapes Go.ChangeAt Go.RowKit
open Go.Proofs.YtnemldibhdphoaaDoor.lk
set_option linter.unusedVariables false

theorem own : ownKnob Tryd.prog.godebug = none := by kernel_rfl
theorem laidOut : laidOutB Tryd.prog = true := by kernel_rfl
theorem gInv : Tryd.prog.globalNamed "github.com/evanw/esbuild/internal/ast.InvalidRef" = some 0 := by kernel_rfl
theorem tInv : (Tryd.prog.globals[0]?).map (·.type) = some 161 := by kernel_rfl
theorem c23 : Tryd.prog.cellsOf 23 = 1 := by kernel_rfl

theorem inv_of {W : World} (hL : laidMetH Tryd.prog Rows.fnMergeSymbolsUnitesExactlyTheTwoClassesRow.laid W) : Inv W 4294967295 4294967295 := by
  rw [MakeChecks.laidMetH_plain _ _ _ (by kernel_rfl)] at hL
  obtain ⟨ps, ⟨g, t, cs, fuel, p, q, hg, ht, hv, hd, _⟩, _⟩ := hL
  obtain rfl := Option.some.inj (gInv.symm.trans hg)
  obtain rfl := Option.some.inj (tInv.symm.trans ht)
  obtain ⟨y0, y1, n, e, hl, h0, h1⟩ := trod_struct2 Tryd.underlying161 hd
  obtain ⟨ia, e0, f0, _⟩ := DataW.trod_int Tryd.underlying23 h0
  obtain ⟨ib, e1, f1, _⟩ := DataW.trod_int Tryd.underlying23 h1
  simp only [Rows.laid_github_com_evanw_esbuild_internal_ast_InvalidRef, f0, f1, Prod.mk.injEq, DataW.agg.injEq, List.cons.injEq, DataW.lit.injEq, Lit.int.injEq, true_and, and_true] at e
  obtain ⟨⟨rfl, rfl⟩, _⟩ := e
  refine ⟨?_, ?_⟩
  · rw [World.var?_cell hg hv 0]
    rw [c23] at e0
    have := congrArg (fun l => l[0]?) e0
    simpa using this
  · rw [World.var?_cell hg hv 1]
    rw [c23] at e1
    have := congrArg (fun l => l[0]?) e1
    simpa using this

theorem door_met (os : Os) (args : Array Value) : laidMetH Tryd.prog Rows.fnMergeSymbolsUnitesExactlyTheTwoClassesRow.laid ((World.doorLaid Tryd.prog 400 os).forCall (fun _ _ => 0) ⟨#[], args, []⟩).memory :=
  laidMetH_of_parts3 (fuel := 8) (laidMet_of_run' 8 (by kernel_rfl) (by kernel_rfl)) (by kernel_rfl) (by kernel_rfl)

set_option maxRecDepth 100000 in
theorem lifted (os : Os) (started : os.Started) (H : Type) (enc : TypeId × Value → H) :
    ReturnsInHanded {} Tryd.checked os 3 .any (fun w args => (Rows.fnMergeSymbolsUnitesExactlyTheTwoClassesSpec.pre enc Tryd.prog Tryd.f3 [] false w args ∧ laidMetH Tryd.prog Rows.fnMergeSymbolsUnitesExactlyTheTwoClassesRow.laid w) ∧ sizedMet enc Tryd.prog Tryd.f3 (OpenSpec.ofChange Rows.fnMergeSymbolsUnitesExactlyTheTwoClassesSpec) false w args)
      (Rows.fnMergeSymbolsUnitesExactlyTheTwoClassesSpec.post enc Tryd.prog Tryd.f3 false true false false) := by
  refine returnsInHanded_of_change_and (C := Tryd.checked) (X := fun w _ => laidMetH Tryd.prog Rows.fnMergeSymbolsUnitesExactlyTheTwoClassesRow.laid w) (fun _ _ _ hh h => h.of_heap hh) own started (by kernel_rfl) Tryd.func3
    (ChangeSpec.witness_shaped (enc := enc) (C := Tryd.checked) (os := os) (X := fun w _ => laidMetH Tryd.prog Rows.fnMergeSymbolsUnitesExactlyTheTwoClassesRow.laid w) false (World.doorLaid Tryd.prog 400 os) #[.slice none 0 0, .int .u32 0, .int .u32 0] 8 rfl (World.shaped_of_RefB (by kernel_rfl) (by kernel_rfl)) (by kernel_rfl) (by kernel_rfl) (by kernel_rfl) (door_met os _)) ?_
  intro W base args ds gs before hval0 hW _ _ hL _
  have hval : ∀ (j : Nat) t v, Tryd.f3.params[j]? = some t → args[j]? = some v → Value.okWide Tryd.prog W .any base t v := hval0
  have hW' := hW
  obtain ⟨p, q, hA0, hV, rfl, hfz, hnd⟩ := hW
  have hA : DataW.TrodAll enc Tryd.prog W 0 (fun _ => true) true Tryd.f3.params.toList args.toList ds p := hA0
  rw [Tryd.params3] at hA hval
  obtain ⟨v0, vs0, d0, ds0, p0, q0, hargs, rfl, rfl, h0, r0⟩ := trodAll_cons hA
  obtain ⟨v1, vs1, d1, ds1, p1, q1, rfl, rfl, rfl, h1, r1⟩ := trodAll_cons r0
  obtain ⟨v2, vs2, d2, ds2, p2, q2, rfl, rfl, rfl, h2, r2⟩ := trodAll_cons r1
  obtain ⟨rfl, rfl, rfl⟩ := trodAll_nil r2
  obtain rfl : args = #[v0, v1, v2] := by cases args; simp_all
  have hI := inv_of hL
  obtain ⟨dg, rfl⟩ : ∃ dg, gs = [dg] := by
    obtain ⟨_, _, _, _, d, _, rfl, _⟩ := trodVars_one hV
    exact ⟨d, rfl⟩
  obtain ⟨a0, len0, cap0, rfl⟩ := okWide_slice Tryd.underlying22 (hval 0 22 v0 rfl rfl)
  have k0 := h0
  have lt0 : ∀ x ∈ p0, x.block < W.heap.size := by obtain ⟨m, hm⟩ := k0; exact DataW.trod_lt m _ _ _ hm
  obtain ⟨z0, w0⟩ : ∃ z0, IsInts .i32 W a0 len0 cap0 z0 := by
    obtain ⟨fuel, hf⟩ := h0
    rcases open_ints Tryd.underlying22 Tryd.underlying21 (by kernel_rfl) hf with ⟨hcs, _⟩ | ⟨x, l, c, zs, hcs, _, hl, hm, hz, _, hcell, hwz⟩
    · simp [Value.cells] at hcs
      obtain ⟨rfl, rfl, rfl⟩ := hcs
      exact ⟨_, IsInts.nil _ W⟩
    · simp [Value.cells] at hcs
      obtain ⟨rfl, rfl, rfl⟩ := hcs
      exact ⟨_, IsInts.mk hl hm (by simpa using hz) hcell hwz⟩
  obtain ⟨a1, rfl, rfl, rfl, w1⟩ := open_int Tryd.underlying23 (hval 1 23 v1 rfl rfl) h1
  obtain ⟨a2, rfl, rfl, rfl, w2⟩ := open_int Tryd.underlying23 (hval 2 23 v2 rfl rfl) h2
  have b1 : 0 ≤ a1 ∧ a1 < 4294967296 := by
    have := w1; simp [Lit.wf] at this; have e1 : IntKind.u32.min = 0 := rfl; have e2 : IntKind.u32.max = 4294967295 := rfl; omega
  have b2 : 0 ≤ a2 ∧ a2 < 4294967296 := by
    have := w2; simp [Lit.wf] at this; have e1 : IntKind.u32.min = 0 := rfl; have e2 : IntKind.u32.max = 4294967295 := rfl; omega
  obtain ⟨o, rfl⟩ : ∃ o : Nat, a1 = o := ⟨a1.toNat, by omega⟩
  obtain ⟨n, rfl⟩ : ∃ n : Nat, a2 = n := ⟨a2.toNat, by omega⟩
  clear hA0 hval0
  refine (law3 W a0 len0 cap0 z0 o n (by omega) (by omega) w0 hI).mono fun e W' ⟨he, bel⟩ => ?_
  subst he
  exact ⟨_, rfl, _, _, _, [], _, _, hW', trodAll_mk1 (shut_bool Tryd.underlying4 _), (trodAll_cons_mk (Below.trod laidOut (by kernel_rfl) (of_decide_eq_true (by kernel_rfl)) k0 bel lt0) (trodAll_cons_mk (shut_int Tryd.underlying23 w1) (trodAll_cons_mk (shut_int Tryd.underlying23 w2) trodAll_mk0))), Below.trodVars laidOut bel (by kernel_rfl) hV, bel.frame _, fun h => by cases h⟩

theorem over : Rows.fnMergeSymbolsUnitesExactlyTheTwoClassesRow.holds Tryd.pinned (OpenSpec.ofChange Rows.fnMergeSymbolsUnitesExactlyTheTwoClassesSpec) :=
  OpenClaim.holds_of_wide 3 Tryd.f3 rfl rfl rfl rfl rfl rfl rfl ⟨rfl, rfl, rfl, rfl, rfl⟩ rfl rfl rfl rfl rfl (by kernel_rfl) Tryd.func3 (by kernel_rfl)
    (of_decide_eq_true (by kernel_rfl)) (by unfold Func.isWrapper; first | (rw [if_pos (by decide +kernel)]; kernel_rfl) | (rw [if_neg (by decide +kernel)]; exact ⟨rfl, rfl⟩))
    (fun os started H enc _ => lifted os started H enc)

theorem proved : Rows.FnMergeSymbolsUnitesExactlyTheTwoClassesCardSaid :=
  Claim7.holds_tied_plain_at .later [] [.data] true (true, "3694b0f15c8dc3d0c01214a002ac9c0bbff6004e568028da2e53c01ac30403f8") false
    over (fun _ h => by cases h) (by kernel_rfl) (fun _ h => by cases h) fnMergeSymbolsUnitesExactlyTheTwoClasses_row_tie rfl ⟨rfl, rfl⟩ (by kernel_rfl) rfl
    (fun f fn hf hfn => by
      obtain rfl : f = 3 := Option.some.inj ((show Tryd.prog.funcNamed "github.com/evanw/esbuild/n011_309.FnMergeSymbolsUnitesExactlyTheTwoClasses" = some 3 by kernel_rfl).symm.trans hf) |>.symm
      obtain rfl : fn = Tryd.f3 := (Option.some.inj (Tryd.func3.symm.trans hfn)).symm
      exact ⟨by kernel_rfl, fun j t ht => by
        rw [Tryd.params3] at ht
        have hm : t ∈ [22, 23, 23] := by simpa using Array.mem_of_getElem? ht
        have hall : ([22, 23, 23].all fun u => !Tryd.prog.wantsStandIn u) = true := by kernel_rfl
        exact (show Tryd.prog.wantsStandIn t = false by simpa using List.all_eq_true.1 hall t hm)⟩)
    (by kernel_rfl)
#print axioms proved
end Go.Proofs.YtnemldibhdphoaaDoor.fnMergeSymbolsUnitesExactlyTheTwoClasses
