/-
  Proved: for every kind byte, flag word and feature set FnPrivateLoweringFlagForcesAndOnlyFlagCounts returns true and leaves its arguments as they were. No condition.
-/
import Derived.Test.YthhkmejihomdpaaRows
import Derived.WalkKit
import Derived.ProofKit
import Derived.OpenShut
import Derived.ShutString
import Derived.Test.YthhkmejihomdpaaLow
namespace Go.Proofs.Ythhkmejihomdpaa.fnPrivateLoweringFlagForcesAndOnlyFlagCounts
open Go.ChangeShapes Go.WideShapes Go.ChangeAt Go.RowKit
open Go.ChangeMaps (open_string shut_string)
set_option linter.unusedVariables false      -- a walk need not use every 'w<i>' (that an integer argument fits its kind)

theorem own : ownKnob Try.prog.godebug = none := by kernel_rfl

open Go.Proofs.Ythhkmejihomdpaa.low

set_option maxHeartbeats 1000000 in
theorem walk (a0 : Int) (a1 : Int) (a2 : Int) (w0 : (Lit.int .u8 a0).wf = true) (w1 : (Lit.int .u16 a1).wf = true) (w2 : (Lit.int .u64 a2).wf = true) (w : World) :
    Calls Try.prog 3 #[.int .u8 a0, .int .u16 a1, .int .u64 a2] w fun e w' => e = .returned (.bool true) ∧ Below w.heap.size w w' := by
  have hx : 0 ≤ a0 ∧ a0 ≤ 255 := by simpa [Lit.wf, IntKind.min, IntKind.max, IntKind.signed, IntKind.bits] using w0
  have hf : 0 ≤ a1 ∧ a1 ≤ 65535 := by simpa [Lit.wf, IntKind.min, IntKind.max, IntKind.signed, IntKind.bits] using w1
  clear w0 w1 w2
  by_cases hp : 8 ≤ a0 ∧ a0 ≤ 17
  · have HP := Lib.hid (isPrivate a0 true (by simpa using hp) hx)
    obtain ⟨hk1, hk2⟩ := hp
    have HO := Lib.hid (or8 a1 hf)
    have HN := Lib.hid (not8 a1 hf)
    have HZ := Lib.hid (zero64 a0)
    have H0 := Lib.hid zero16
    obtain ⟨x, hx1⟩ : ∃ x, (bits .and .u64 a2 (feat a0) != 0) = x := ⟨_, rfl⟩
    obtain ⟨y, hy1⟩ : ∃ y, (bits .and .u16 a1 8 != 0) = y := ⟨_, rfl⟩
    have HX := Lib.hid hx1
    have HY := Lib.hid hy1
    clear hx1
    cases x <;> cases y
    all_goals
      go_enter Try.func3, Try.ntmps3
      go_wp2_with fail
      refine (HP.out _).mono ?_
      rintro e w' ⟨rfl, rfl⟩
      go_wp2_with (go_at_call 5; go_in)
      refine (asks a2 a0 a1 hk1 hk2 _ _ _ HX.out HY.out).mono ?_
      rintro e w3 ⟨rfl, b3⟩
      have B3 := Lib.hid b3
      clear b3
      go_wp2_with fail
      refine (asks a2 a0 0 hk1 hk2 _ _ _ HX.out H0.out).mono ?_
      rintro e w4 ⟨rfl, b4⟩
      have B4 := Lib.hid (B3.out.trans (b4.mono B3.out.size))
      clear b4
      go_wp2_with fail
      refine (asks a2 a0 _ hk1 hk2 _ _ _ HX.out HO.out).mono ?_
      rintro e w5 ⟨rfl, b5⟩
      have B5 := Lib.hid (B4.out.trans (b5.mono B4.out.size))
      clear b5
      go_wp2_with fail
      refine (asks 0 a0 _ hk1 hk2 _ _ _ HZ.out HN.out).mono ?_
      rintro e w6 ⟨rfl, b6⟩
      have B6 := Lib.hid (B5.out.trans (b6.mono B5.out.size))
      clear b6
      go_wp2_with fail
      go_ret
      exact ⟨rfl, B6.out⟩
  · have HP := Lib.hid (isPrivate a0 false (by simpa using hp) hx)
    clear hp
    go_enter Try.func3, Try.ntmps3
    go_wp2_with (go_at_call 4; refine (HP.out _).mono ?_; rintro e w' ⟨rfl, rfl⟩)
    go_ret
    exact ⟨rfl, Below.refl _ _⟩

/-! ### THE ROW's STEP: WRITTEN OUT: LEAVE IT -/
set_option maxRecDepth 100000 in
theorem lifted (os : Os) (started : os.Started) (H : Type) (enc : TypeId × Value → H) :
    ReturnsInHanded {} Try.checked os 3 .any (Rows.fnPrivateLoweringFlagForcesAndOnlyFlagCountsSpec.pre6 enc Try.prog Try.f3 Rows.fnPrivateLoweringFlagForcesAndOnlyFlagCountsRow.domain false) (Rows.fnPrivateLoweringFlagForcesAndOnlyFlagCountsSpec.post enc Try.prog Try.f3 false true false false) := by
  refine returnsInHanded_of_change (C := Try.checked) own started (by kernel_rfl) Try.func3
    (ChangeSpec.witness6 (enc := enc) (C := Try.checked) false ⟨#[], #[.int .u8 0, .int .u16 0, .int .u64 0], []⟩ 8 (by kernel_rfl) (by kernel_rfl) (by kernel_rfl) (by kernel_rfl)) ?_
  intro W base args ds gs before hval0 hW hcnd _
  have hval : ∀ (j : Nat) t v, Try.f3.params[j]? = some t → args[j]? = some v → Value.okWide Try.prog W .any base t v := hval0
  have hW' := hW
  obtain ⟨p, q, hA0, hV, rfl, hfz, hnd⟩ := hW
  have hA : DataW.TrodAll enc Try.prog W 0 (fun _ => true) true Try.f3.params.toList args.toList ds p := hA0
  rw [Try.params3] at hA hval
  obtain ⟨v0, vs0, d0, ds0, p0, q0, hargs, rfl, rfl, h0, r0⟩ := trodAll_cons hA
  obtain ⟨v1, vs1, d1, ds1, p1, q1, rfl, rfl, rfl, h1, r1⟩ := trodAll_cons r0
  obtain ⟨v2, vs2, d2, ds2, p2, q2, rfl, rfl, rfl, h2, r2⟩ := trodAll_cons r1
  obtain ⟨rfl, rfl, rfl⟩ := trodAll_nil r2
  obtain rfl : args = #[v0, v1, v2] := by cases args; simp_all
  obtain ⟨rfl, rfl⟩ := trodVars_none hV
  obtain ⟨a0, rfl, rfl, rfl, w0⟩ := open_int Try.underlying5 (hval 0 5 v0 rfl rfl) h0
  obtain ⟨a1, rfl, rfl, rfl, w1⟩ := open_int Try.underlying22 (hval 1 22 v1 rfl rfl) h1
  obtain ⟨a2, rfl, rfl, rfl, w2⟩ := open_int Try.underlying23 (hval 2 23 v2 rfl rfl) h2
  clear hA0 hval0
  simp only [List.append_nil] at hW'
  refine (walk a0 a1 a2 w0 w1 w2 W).mono fun e W' ⟨he, bel⟩ => ?_
  subst he
  exact ⟨_, rfl, _, _, _, [], _, [], hW', (trodAll_cons_mk (shut_bool Try.underlying4 _) trodAll_mk0), (trodAll_cons_mk (shut_int Try.underlying5 w0) (trodAll_cons_mk (shut_int Try.underlying22 w1) (trodAll_cons_mk (shut_int Try.underlying23 w2) trodAll_mk0))), rfl, bel.frame _, fun h => by cases h⟩

theorem over : Rows.fnPrivateLoweringFlagForcesAndOnlyFlagCountsRow.holds Try.pinned (OpenSpec.ofChange Rows.fnPrivateLoweringFlagForcesAndOnlyFlagCountsSpec) :=
  OpenClaim.holds_of_wide 3 Try.f3 rfl rfl rfl rfl rfl rfl rfl ⟨rfl, rfl, rfl, rfl, rfl⟩ rfl rfl rfl rfl rfl (by kernel_rfl) Try.func3 (by kernel_rfl)
    (of_decide_eq_true (by kernel_rfl)) (by unfold Func.isWrapper; first | (rw [if_pos (by decide +kernel)]; kernel_rfl) | (rw [if_neg (by decide +kernel)]; exact ⟨rfl, rfl⟩))
    (fun os started H enc _ => lifted os started H enc)

/-- ████ THE STATEMENT ████ -/
theorem proved : Rows.FnPrivateLoweringFlagForcesAndOnlyFlagCountsSaid :=
  over
#print axioms proved
end Go.Proofs.Ythhkmejihomdpaa.fnPrivateLoweringFlagForcesAndOnlyFlagCounts
