/-
  FnWhyStrictModeAgreesWithIsStrictMode: the frame and the card.
-/
import Derived.Test.YtgbcclfachgbjaaFmtTie
import Derived.Test.YtgbcclfachgbjaaFmtCards
import Derived.Test.YtgbcclfachgbjaaFmtWh
import Derived.ProofKit
import Derived.LaidMore
import Derived.Lay
import Derived.Stop.JoinedAt
import Derived.Stop.JoinedTold
import Derived.SizedLaws
import Derived.Deep.DeepWitnessRef
import Derived.SevenTiedAt
namespace Go.Proofs.YtgbcclfachgbjaaFmt.fnWhyStrictModeAgreesWithIsStrictMode
open Go.ChangeShapes Go.WideShapes Go.ChangeAt Go.RowKit
open Go.Extern.Stop Go.Stop Go.Extern
set_option linter.unusedVariables false

theorem own : ownKnob Tryf.prog.godebug = none := by kernel_rfl
theorem laidOut : laidOutB Tryf.pinned.checked.prog = true := by kernel_rfl
theorem stops : Tryf.pinned.checked.prog.stops = ["fmt.Sprintf"] := by kernel_rfl
theorem stopKnobs : Tryf.pinned.checked.prog.stopKnobs = [] := by kernel_rfl
theorem quiet (os : Os) : Stop.quiet Tryf.pinned.checked.prog os := by
  intro k hk
  rw [stopKnobs] at hk
  cases hk
abbrev spec : OpenSpec := OpenSpec.ofChange Rows.fnWhyStrictModeAgreesWithIsStrictModeSpec
abbrev lay : List (String × DataW Unit) := Rows.fnWhyStrictModeAgreesWithIsStrictModeRow.laid
def great : List String := ["unicode/utf8.first"]
noncomputable def w0 (os : Os) : World := World.doorLaid Tryf.prog 400 os
noncomputable def w1 (os : Os) : World := (w0 os).layVars Tryf.prog (lay.filter fun x => great.contains x.1)
noncomputable def B (os : Os) : List Nat := (List.range (w0 os).heap.size).filter fun b => b != 0
def args0 : Array Value := #[.int .u8 0, .int .i32 0, .int .i32 0, .int .i32 0, .int .i32 0]
theorem laidIn (os : Os) (args : Array Value) : LaidIn Tryf.prog ((w1 os).forCall (fun _ _ => 0) ⟨#[], args, []⟩).memory (lay.filter fun x => !great.contains x.1) (B os) :=
  LaidIn.of_run (B os) 8 (by kernel_rfl) (by kernel_rfl) (by kernel_rfl) (by kernel_rfl)
theorem w1_met (os : Os) (args : Array Value) : laidMet Tryf.prog lay ((w1 os).forCall (fun _ _ => 0) ⟨#[], args, []⟩).memory :=
  laidMet_layVars (w0 := w0 os) great (B os) (by simp [World.memory, World.forCall, Input.heap, w1]) (by kernel_rfl) (by kernel_rfl) (laidIn os args)
theorem witness_row (os : Os) {H : Type} (enc : TypeId × Value → H) :
    spec.preRow enc Tryf.prog Tryf.f3 [] false lay ((w1 os).forCall (fun _ _ => 0) ⟨#[], args0, []⟩).memory args0 := by
  have hw : (DataW.whole enc Tryf.prog ((w1 os).forCall (fun _ _ => 0) ⟨#[], args0, []⟩).memory Tryf.f3.params.toList spec.vars false args0.toList 8).map (fun x => (x.1, x.2.1)) =
      some ([.lit (.int .u8 0), .lit (.int .i32 0), .lit (.int .i32 0), .lit (.int .i32 0), .lit (.int .i32 0)], []) := by kernel_rfl
  obtain ⟨⟨y1, y2, y3⟩, hx, hx1⟩ := Option.map_eq_some_iff.1 hw
  simp only [Prod.mk.injEq] at hx1
  obtain ⟨rfl, rfl⟩ := hx1
  exact OpenSpec.preRow_of_cond 8 hx (by kernel_rfl) (fun k hk => by cases hk) (by kernel_rfl) (w1_met os _)
set_option maxRecDepth 100000 in
theorem lifted (os : Os) (started : os.Started) (H : Type) (enc : TypeId × Value → H) :
    ReturnsInTold none {} Tryf.checked os 3 .any Input.okWide (spec.preRow enc Tryf.prog Tryf.f3 [] false lay) (fun F => (spec.at F).post enc Tryf.prog Tryf.f3 false true false false) (aloneAtReturn Tryf.prog) nothingAlways := by
  refine returnsInTold_of_row (C := Tryf.checked) (s := spec) (by kernel_rfl) own started (by kernel_rfl) Tryf.func3
    (OpenSpec.witness_stopped_atRef (enc := enc) (C := Tryf.checked) false (w1 os) args0 ((World.layVars_os _ _ _).trans rfl) (by kernel_rfl) (by kernel_rfl) (by kernel_rfl) (witness_row os enc)) ?_
  intro F W base args ds gs before _ hF hval0 hW _ _ _ _ _
  have hval : ∀ (j : Nat) t v, Tryf.f3.params[j]? = some t → args[j]? = some v → Value.okWide Tryf.prog W .any base t v := hval0
  have hW' := hW
  obtain ⟨p, q, hA0, hV, rfl, hfz, hnd⟩ := hW
  have hA : DataW.TrodAll enc Tryf.prog W 0 (fun _ => true) true Tryf.f3.params.toList args.toList ds p := hA0
  rw [Tryf.params3] at hA hval
  obtain ⟨v0, vs0, d0, ds0, p0, q0, hargs, rfl, rfl, h0, r0⟩ := trodAll_cons hA
  obtain ⟨v1, vs1, d1, ds1, p1, q1, rfl, rfl, rfl, h1, r1⟩ := trodAll_cons r0
  obtain ⟨v2, vs2, d2, ds2, p2, q2, rfl, rfl, rfl, h2, r2⟩ := trodAll_cons r1
  obtain ⟨v3, vs3, d3, ds3, p3, q3, rfl, rfl, rfl, h3, r3⟩ := trodAll_cons r2
  obtain ⟨v4, vs4, d4, ds4, p4, q4, rfl, rfl, rfl, h4, r4⟩ := trodAll_cons r3
  obtain ⟨rfl, rfl, rfl⟩ := trodAll_nil r4
  obtain rfl : args = #[v0, v1, v2, v3, v4] := by cases args; simp_all
  obtain ⟨rfl, rfl⟩ := trodVars_none hV
  obtain ⟨k, rfl, rfl, rfl, wk⟩ := open_int Tryf.underlying5 (hval 0 5 v0 rfl rfl) h0
  obtain ⟨x1, rfl, rfl, rfl, wx1⟩ := open_int Tryf.underlying21 (hval 1 21 v1 rfl rfl) h1
  obtain ⟨x2, rfl, rfl, rfl, wx2⟩ := open_int Tryf.underlying21 (hval 2 21 v2 rfl rfl) h2
  obtain ⟨x3, rfl, rfl, rfl, wx3⟩ := open_int Tryf.underlying21 (hval 3 21 v3 rfl rfl) h3
  obtain ⟨x4, rfl, rfl, rfl, wx4⟩ := open_int Tryf.underlying21 (hval 4 21 v4 rfl rfl) h4
  clear hA0 hval0 hargs
  refine (ws.law3 F.told W hF k x1 x2 x3 x4).mono fun e W' ⟨he, bel⟩ => ?_
  subst he
  refine ⟨_, rfl, _, _, _, [], [], [], hW', ?_, ?_, rfl, bel.frame _, fun h => by cases h⟩
  · exact trodAll_mk1 (shut_bool Tryf.underlying4 _)
  · exact trodAll_cons_mk (shut_int Tryf.underlying5 wk) (trodAll_mk4 (shut_int Tryf.underlying21 wx1) (shut_int Tryf.underlying21 wx2) (shut_int Tryf.underlying21 wx3) (shut_int Tryf.underlying21 wx4))

theorem proved : Rows.FnWhyStrictModeAgreesWithIsStrictModeToldSaid :=
  Claim7.holds_of_told_tied_any_at .later 3 Tryf.f3 "fmt.Sprintf" [] [] _ _ _ _ _ (by kernel_rfl) rfl rfl rfl laidOut (by kernel_rfl) rfl ⟨rfl, rfl, rfl, rfl, rfl, rfl, rfl⟩ rfl rfl (by kernel_rfl) (by kernel_rfl) Tryf.func3 (by kernel_rfl)
    (of_decide_eq_true (by kernel_rfl)) (of_decide_eq_true (by kernel_rfl)) stops.symm rfl stopKnobs.symm (by kernel_rfl)
    (by kernel_rfl) (by kernel_rfl) (by kernel_rfl) (by kernel_rfl) (by kernel_rfl) (by kernel_rfl) (by kernel_rfl) (by kernel_rfl) (by kernel_rfl) rfl (by kernel_rfl) rfl rfl
    rfl rfl
    rfl (by kernel_rfl) (by kernel_rfl) (by kernel_rfl) (by decide) (by kernel_rfl) fnWhyStrictModeAgreesWithIsStrictMode_row_tie
    (OpenClaim.moreEntering_of (by kernel_rfl) (by kernel_rfl) (by kernel_rfl) (by kernel_rfl) (by kernel_rfl) (by kernel_rfl) (by kernel_rfl) (by kernel_rfl) (by kernel_rfl) (by kernel_rfl))
    ⟨_, WideRow.started_initial, quiet _⟩
    (fun os started _ H enc _ => lifted os started H enc)
#print axioms proved
end Go.Proofs.YtgbcclfachgbjaaFmt.fnWhyStrictModeAgreesWithIsStrictMode
