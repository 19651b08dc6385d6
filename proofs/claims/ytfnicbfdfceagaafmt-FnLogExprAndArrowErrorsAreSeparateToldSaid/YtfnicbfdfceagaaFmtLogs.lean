/-
  Proved: for every text, all ranges and all rows of starts and lengths FnLogExprAndArrowErrorsAreSeparate returns true and leaves its arguments as they were (the told and tied card). No condition beyond the listed variables; fmt's text is told by the card's own function.
-/
import Derived.Test.YtfnicbfdfceagaaFmtTie
import Derived.Test.YtfnicbfdfceagaaFmtCards
import Derived.Test.YtfnicbfdfceagaaFmtLp
import Derived.ProofKit
import Derived.OpenShut
import Derived.ShutString
import Derived.ChangeOld
import Derived.Below
import Derived.LaidMore
import Derived.Lay
import Derived.PinnedBridge
import Derived.Lib.LaidU8
import Derived.Stop.JoinedAt
import Derived.Stop.JoinedTold
import Derived.SizedLaws
import Derived.Deep.DeepWitnessRef
import Derived.SevenTiedAt
namespace Go.Proofs.YtfnicbfdfceagaaFmt.fnLogExprAndArrowErrorsAreSeparate
open Go.ChangeShapes Go.WideShapes Go.ChangeAt Go.RowKit Go.Shelf Go.Lib
open Go.ChangeMaps (open_string shut_string)
open Go.Extern.Stop Go.Stop Go.Extern
open Go.Proofs.YtfnicbfdfceagaaFmt.lg
set_option linter.unusedVariables false

theorem own : ownKnob Tryf.prog.godebug = none := by kernel_rfl
theorem laidOut : laidOutB Tryf.pinned.checked.prog = true := by kernel_rfl
theorem laidOutP : laidOutB Tryf.prog = true := by kernel_rfl
theorem stops : Tryf.pinned.checked.prog.stops = ["fmt.Sprintf"] := by kernel_rfl
theorem stopKnobs : Tryf.pinned.checked.prog.stopKnobs = [] := by kernel_rfl
theorem quiet (os : Os) : Stop.quiet Tryf.pinned.checked.prog os := by
  intro k hk
  rw [stopKnobs] at hk
  cases hk
abbrev spec : OpenSpec := OpenSpec.ofChange Rows.fnLogExprAndArrowErrorsAreSeparateSpec
abbrev lay : List (String × DataW Unit) := Rows.fnLogExprAndArrowErrorsAreSeparateRow.laid
theorem tabs_of_laid {W : World} (h : laidMetH Tryf.prog lay W) : Tabs W := by
  rw [MakeChecks.laidMetH_plain _ _ _ (by kernel_rfl)] at h
  have r1 := Lib.laidMet.reads h (n := "unicode/utf8.acceptRanges") (d := Rows.laid_unicode_utf8_acceptRanges) (.head _)
  have r4 := Lib.laidMet.reads h (n := "unicode/utf8.first") (d := Rows.laid_unicode_utf8_first) (.tail _ (.head _))
  refine utf8Tabs_of_reads (ρ := Tryf.lays260_ren) Tryf.lays260 ⟨by kernel_rfl, by kernel_rfl, by kernel_rfl, by kernel_rfl, by kernel_rfl, by kernel_rfl, by kernel_rfl⟩ ?_ ?_
  · have e : Rows.laid_unicode_utf8_first = firstData := Pinned.utf8First_eq
    rw [e] at r4
    exact r4
  · have e : (Rows.laid_unicode_utf8_acceptRanges : DataW Unit) = acceptData := by kernel_rfl
    rw [e] at r1
    exact r1
/-- What a walk is told of a slice of integers that came in. -/
def IsInts (w : World) (a : Option Addr) (len cap : Nat) (Z : Nat → Int) : Prop := Arg w a len cap Z ∧ len ≤ maxLen ∧ ∀ i, B32 (Z i)
theorem wf32 {x : Int} (h : (Lit.int .i32 x).wf = true) : B32 x := by
  simp [Lit.wf] at h
  have e1 : IntKind.i32.min = -2147483648 := rfl
  have e2 : IntKind.i32.max = 2147483647 := rfl
  exact ⟨by omega, by omega⟩
theorem IsInts.nil (w : World) : IsInts w none 0 0 (fun _ => 0) := ⟨⟨fun _ => ⟨rfl, rfl⟩, (fun x h => by cases h)⟩, by unfold maxLen; omega, fun i => ⟨by show (-2147483648 : Int) ≤ 0; omega, by show (0 : Int) ≤ 2147483647; omega⟩⟩
theorem IsInts.mk {w : World} {a : Addr} {len cap : Nat} {zs : List Int} (hl : len ≤ cap) (hm : cap ≤ maxLen) (hz : zs.length = cap)
    (h : ∀ i, i < zs.length → w.cell? (a.add i) = some (.int .i32 (zs.getD i 0))) (hwz : ∀ n ∈ zs, (Lit.int .i32 n).wf = true) : IsInts w (some a) len cap (fun i => zs.getD i 0) := by
  refine ⟨⟨(fun e => by cases e), fun x e => ?_⟩, by omega, fun i => ?_⟩
  · obtain rfl := Option.some.inj e
    have hs : 0 < len → a.spot = none := fun h0 => by
      simpa [Addr.add] using World.cell?_spot (h 0 (by omega))
    refine ⟨hs, fun i hi => ?_⟩
    have h1 := h i (by omega)
    obtain ⟨b, off, sp⟩ := a
    obtain rfl : sp = none := hs (by omega)
    rw [Go.WideShapes.add_plain] at h1
    exact h1
  · show B32 (zs.getD i 0)
    rw [List.getD_eq_getElem?_getD]
    cases e : zs[i]? with
    | none => exact ⟨by show (-2147483648 : Int) ≤ 0; omega, by show (0 : Int) ≤ 2147483647; omega⟩
    | some s => exact wf32 (hwz s (List.mem_of_getElem? e))
def great : List String := ["unicode/utf8.first"]
noncomputable def w0 (os : Os) : World := World.doorLaid Tryf.prog 400 os
noncomputable def w1 (os : Os) : World := (w0 os).layVars Tryf.prog (lay.filter fun x => great.contains x.1)
noncomputable def B (os : Os) : List Nat := (List.range (w0 os).heap.size).filter fun b => b != 0
def args0 : Array Value := #[.string ByteArray.empty, .int .i32 0, .int .i32 0, .int .i32 0, .int .i32 0, .slice none 0 0, .slice none 0 0]
theorem laidIn (os : Os) (args : Array Value) : LaidIn Tryf.prog ((w1 os).forCall (fun _ _ => 0) ⟨#[], args, []⟩).memory (lay.filter fun x => !great.contains x.1) (B os) :=
  LaidIn.of_run (B os) 8 (by kernel_rfl) (by kernel_rfl) (by kernel_rfl) (by kernel_rfl)
theorem w1_met (os : Os) (args : Array Value) : laidMet Tryf.prog lay ((w1 os).forCall (fun _ _ => 0) ⟨#[], args, []⟩).memory :=
  laidMet_layVars (w0 := w0 os) great (B os) (by simp [World.memory, World.forCall, Input.heap, w1]) (by kernel_rfl) (by kernel_rfl) (laidIn os args)
theorem witness_row (os : Os) {H : Type} (enc : TypeId × Value → H) :
    spec.preRow enc Tryf.prog Tryf.f3 [] false lay ((w1 os).forCall (fun _ _ => 0) ⟨#[], args0, []⟩).memory args0 := by
  have hw : (DataW.whole enc Tryf.prog ((w1 os).forCall (fun _ _ => 0) ⟨#[], args0, []⟩).memory Tryf.f3.params.toList spec.vars false args0.toList 8).map (fun x => (x.1, x.2.1)) =
      some ([.lit (.string []), .lit (.int .i32 0), .lit (.int .i32 0), .lit (.int .i32 0), .lit (.int .i32 0), .nil, .nil], []) := by kernel_rfl
  obtain ⟨⟨y1, y2, y3⟩, hx, hx1⟩ := Option.map_eq_some_iff.1 hw
  simp only [Prod.mk.injEq] at hx1
  obtain ⟨rfl, rfl⟩ := hx1
  exact OpenSpec.preRow_of_cond 8 hx (by kernel_rfl) (fun k hk => by cases hk) (by kernel_rfl) (w1_met os _)
set_option maxRecDepth 100000 in
theorem lifted (os : Os) (started : os.Started) (H : Type) (enc : TypeId × Value → H) :
    ReturnsInTold none {} Tryf.checked os 3 .any Input.okWide (spec.preRow enc Tryf.prog Tryf.f3 [] false lay) (fun F => (spec.at F).post enc Tryf.prog Tryf.f3 false true false false) (aloneAtReturn Tryf.prog) nothingAlways := by
  refine returnsInTold_of_row (C := Tryf.checked) (s := spec) (by kernel_rfl) own started (by kernel_rfl) Tryf.func3
    (OpenSpec.witness_stopped_atRef (enc := enc) (C := Tryf.checked) false (w1 os) args0 ((World.layVars_os _ _ _).trans rfl) (by kernel_rfl) (by kernel_rfl) (by kernel_rfl) (witness_row os enc)) ?_
  intro F W base args ds gs before _ hF hval0 hW _ _ _ hL _
  have hval : ∀ (j : Nat) t v, Tryf.f3.params[j]? = some t → args[j]? = some v → Value.okWide Tryf.prog W .any base t v := hval0
  have hW' := hW
  obtain ⟨p, q, hA0, hV, rfl, hfz, hnd⟩ := hW
  have hA : DataW.TrodAll enc Tryf.prog W 0 (fun _ => true) true Tryf.f3.params.toList args.toList ds p := hA0
  rw [Tryf.params3] at hA hval
  obtain ⟨v0, vs0, d0, ds0, p0, q0, hargs, rfl, rfl, h0, r0⟩ := trodAll_cons hA
  obtain ⟨v1, vs1, d1, ds1, p1, q1, rfl, rfl, rfl, h1, r1⟩ := trodAll_cons r0
  obtain ⟨v2, vs2, d2, ds2, p2, q2, rfl, rfl, rfl, h2, r2⟩ := trodAll_cons r1
  obtain ⟨v3, vs3, d3, ds3, p3, q3, rfl, rfl, rfl, h3, r3⟩ := trodAll_cons r2
  obtain ⟨v4, vs4, d4, ds4, p4, q4, rfl, rfl, rfl, h4, r4⟩ := trodAll_cons r3
  obtain ⟨v5, vs5, d5, ds5, p5, q5, rfl, rfl, rfl, h5, r5⟩ := trodAll_cons r4
  obtain ⟨v6, vs6, d6, ds6, p6, q6, rfl, rfl, rfl, h6, r6⟩ := trodAll_cons r5
  obtain ⟨rfl, rfl, rfl⟩ := trodAll_nil r6
  obtain rfl : args = #[v0, v1, v2, v3, v4, v5, v6] := by cases args; simp_all
  obtain ⟨rfl, rfl⟩ := trodVars_none hV
  obtain ⟨s, rfl, rfl, rfl, ws⟩ := open_string Tryf.underlying9 (hval 0 9 v0 rfl rfl) h0
  obtain ⟨x1, rfl, rfl, rfl, wx1⟩ := open_int Tryf.underlying21 (hval 1 21 v1 rfl rfl) h1
  obtain ⟨x2, rfl, rfl, rfl, wx2⟩ := open_int Tryf.underlying21 (hval 2 21 v2 rfl rfl) h2
  obtain ⟨x3, rfl, rfl, rfl, wx3⟩ := open_int Tryf.underlying21 (hval 3 21 v3 rfl rfl) h3
  obtain ⟨x4, rfl, rfl, rfl, wx4⟩ := open_int Tryf.underlying21 (hval 4 21 v4 rfl rfl) h4
  obtain ⟨a5, len5, cap5, rfl⟩ := okWide_slice Tryf.underlying22 (hval 5 22 v5 rfl rfl)
  have k5 := h5
  have lt5 : ∀ x ∈ p5, x.block < W.heap.size := by obtain ⟨m, hm⟩ := k5; exact DataW.trod_lt m _ _ _ hm
  obtain ⟨z5, w5⟩ : ∃ z5, IsInts W a5 len5 cap5 z5 := by
    obtain ⟨fuel, hf⟩ := h5
    rcases open_ints Tryf.underlying22 Tryf.underlying21 (by kernel_rfl) hf with ⟨hcs, _⟩ | ⟨x, l, c, zs, hcs, _, hl, hm, hz, _, hcell, hwz⟩
    · simp [Value.cells] at hcs
      obtain ⟨rfl, rfl, rfl⟩ := hcs
      exact ⟨_, IsInts.nil W⟩
    · simp [Value.cells] at hcs
      obtain ⟨rfl, rfl, rfl⟩ := hcs
      exact ⟨_, IsInts.mk hl hm (by simpa using hz) hcell hwz⟩
  obtain ⟨a6, len6, cap6, rfl⟩ := okWide_slice Tryf.underlying22 (hval 6 22 v6 rfl rfl)
  have k6 := h6
  have lt6 : ∀ x ∈ p6, x.block < W.heap.size := by obtain ⟨m, hm⟩ := k6; exact DataW.trod_lt m _ _ _ hm
  obtain ⟨z6, w6⟩ : ∃ z6, IsInts W a6 len6 cap6 z6 := by
    obtain ⟨fuel, hf⟩ := h6
    rcases open_ints Tryf.underlying22 Tryf.underlying21 (by kernel_rfl) hf with ⟨hcs, _⟩ | ⟨x, l, c, zs, hcs, _, hl, hm, hz, _, hcell, hwz⟩
    · simp [Value.cells] at hcs
      obtain ⟨rfl, rfl, rfl⟩ := hcs
      exact ⟨_, IsInts.nil W⟩
    · simp [Value.cells] at hcs
      obtain ⟨rfl, rfl, rfl⟩ := hcs
      exact ⟨_, IsInts.mk hl hm (by simpa using hz) hcell hwz⟩
  have U := tabs_of_laid hL
  have hD : 2 ≤ W.heap.size := by have := block_lt_of_cell (U.2 0 (by omega)).1; simp at this; omega
  clear hA0 hval0 hargs
  refine (law3 F.told W hF U hD s x1 x2 x3 x4 a5 a6 len5 cap5 len6 cap6 z5 z6 (wf32 wx1) (wf32 wx2) (wf32 wx3) (wf32 wx4) w5.2.1 w6.2.1 ws w5.1 w6.1 (fun i _ => w5.2.2 i) (fun i _ => w6.2.2 i)).mono fun e W' ⟨he, bel⟩ => ?_
  subst he
  exact ⟨_, rfl, _, _, _, [], _, [], hW', trodAll_mk1 (shut_bool Tryf.underlying4 _),
    (trodAll_cons_mk (shut_string Tryf.underlying9 ws) (trodAll_cons_mk (shut_int Tryf.underlying21 wx1) (trodAll_cons_mk (shut_int Tryf.underlying21 wx2) (trodAll_cons_mk (shut_int Tryf.underlying21 wx3) (trodAll_cons_mk (shut_int Tryf.underlying21 wx4)
      (trodAll_cons_mk (Below.trod laidOutP (by kernel_rfl) (of_decide_eq_true (by kernel_rfl)) k5 bel lt5) (trodAll_cons_mk (Below.trod laidOutP (by kernel_rfl) (of_decide_eq_true (by kernel_rfl)) k6 bel lt6) trodAll_mk0))))))), rfl, bel.frame _, fun h => by cases h⟩

theorem proved : Rows.FnLogExprAndArrowErrorsAreSeparateToldSaid :=
  Claim7.holds_of_told_tied_any_at .later 3 Tryf.f3 "fmt.Sprintf" [] [] _ _ _ _ _ (by kernel_rfl) rfl rfl rfl laidOut (by kernel_rfl) rfl ⟨rfl, rfl, rfl, rfl, rfl, rfl, rfl⟩ rfl rfl (by kernel_rfl) (by kernel_rfl) Tryf.func3 (by kernel_rfl)
    (of_decide_eq_true (by kernel_rfl)) (of_decide_eq_true (by kernel_rfl)) stops.symm rfl stopKnobs.symm (by kernel_rfl)
    (by kernel_rfl) (by kernel_rfl) (by kernel_rfl) (by kernel_rfl) (by kernel_rfl) (by kernel_rfl) (by kernel_rfl) (by kernel_rfl) (by kernel_rfl) rfl (by kernel_rfl) rfl rfl
    rfl rfl
    rfl (by kernel_rfl) (by kernel_rfl) (by kernel_rfl) (by decide) (by kernel_rfl) fnLogExprAndArrowErrorsAreSeparate_row_tie
    (OpenClaim.moreEntering_of (by kernel_rfl) (by kernel_rfl) (by kernel_rfl) (by kernel_rfl) (by kernel_rfl) (by kernel_rfl) (by kernel_rfl) (by kernel_rfl) (by kernel_rfl) (by kernel_rfl))
    ⟨_, WideRow.started_initial, quiet _⟩
    (fun os started _ H enc _ => lifted os started H enc)
#print axioms proved
end Go.Proofs.YtfnicbfdfceagaaFmt.fnLogExprAndArrowErrorsAreSeparate
