/-
  Proved: for every flag, scope kinds and symbol kinds FnCanMergeSymbolsScopeAndTSOnlyWhereDocumented returns true and leaves its arguments as they were. No condition.
-/
import Derived.Test.YtnemldibhdphoaaRows
import Derived.WalkKit
import Derived.ProofKit
import Derived.OpenShut
import Derived.ShutString
import Derived.Test.YtnemldibhdphoaaCmsAll
namespace Go.Proofs.Ytnemldibhdphoaa.fnCanMergeSymbolsScopeAndTSOnlyWhereDocumented
open Go.ChangeShapes Go.WideShapes Go.ChangeAt Go.RowKit
open Go.ChangeMaps (open_string shut_string)
set_option linter.unusedVariables false      -- a walk need not use every 'w<i>' (that an integer argument fits its kind)

theorem own : ownKnob Try.prog.godebug = none := by kernel_rfl

open Go.Proofs.Ytnemldibhdphoaa.cms

def AskR (w : World) (r : Int) (e : Ending) (w' : World) : Prop := e = .returned (.int .i64 r) ∧ Below w.heap.size w w'
theorem askr (w : World) (ts : Bool) (sc ex nw r : Int) (h : cm ts sc ex nw = r) (w1 : World) (hb : Below w.heap.size w w1) :
    Calls Try.prog 4 #[.bool ts, .int .u8 sc, .int .u8 ex, .int .u8 nw] w1 (AskR w r) := by
  subst h
  exact (asks ts sc ex nw w1).mono fun e w' ⟨he, hb'⟩ => ⟨he, hb.trans (hb'.mono hb.size)⟩

theorem hofl (k : Int) (v : Bool) (hv : hf k = v) (w : World) :
    Calls Try.prog 5 #[.int .u8 k] w fun e w' => e = .returned (.bool v) ∧ w = w' := by
  unfold hf at hv
  by_cases h1 : k = 1
  · subst h1
    obtain rfl : v = true := by rw [← hv]; rfl
    clear hv
    go_enter Try.func5, Try.ntmps5
    go_wp2
    go_ret
    exact ⟨rfl, rfl⟩
  · have e1 : (k == 1) = false := by simpa using h1
    by_cases h2 : k = 2
    · subst h2
      obtain rfl : v = true := by rw [← hv]; rfl
      clear hv
      go_enter Try.func5, Try.ntmps5
      go_wp2
      go_ret
      exact ⟨rfl, rfl⟩
    · have e2 : (k == 2) = false := by simpa using h2
      rw [e1, e2] at hv
      simp only [Bool.false_or] at hv
      subst hv
      go_enter Try.func5, Try.ntmps5
      go_wp2
      go_ret
      exact ⟨rfl, rfl⟩

set_option maxHeartbeats 2000000 in
theorem walk (a0 : Bool) (a1 : Int) (a2 : Int) (a3 : Int) (a4 : Int) (w1 : (Lit.int .u8 a1).wf = true) (w2 : (Lit.int .u8 a2).wf = true) (w3 : (Lit.int .u8 a3).wf = true) (w4 : (Lit.int .u8 a4).wf = true) (w : World) :
    Calls Try.prog 3 #[.bool a0, .int .u8 a1, .int .u8 a2, .int .u8 a3, .int .u8 a4] w fun e w' => e = .returned (.bool true) ∧ Below w.heap.size w w' := by
  clear w1 w2 w3 w4
  have hb0 := Below.refl w.heap.size w
  obtain ⟨r, hr⟩ : ∃ r, cm a0 a1 a3 a4 = r := ⟨_, rfl⟩
  have hbd := cm_bd a0 a1 a3 a4
  rw [hr] at hbd
  obtain ⟨x3, hx3⟩ : ∃ x, hf a3 = x := ⟨_, rfl⟩
  obtain ⟨x4, hx4⟩ : ∃ x, hf a4 = x := ⟨_, rfl⟩
  have H3 := Lib.hid (hofl a3 x3 hx3)
  have H4 := Lib.hid (hofl a4 x4 hx4)
  have HA := Lib.hid (askr w a0 a1 a3 a4 r hr)
  have HB : Hid (¬ (x3 = true ∧ x4 = true) → ∀ w', Below w.heap.size w w' → Calls Try.prog 4 #[.bool a0, .int .u8 a2, .int .u8 a3, .int .u8 a4] w' (AskR w r)) := Lib.hid fun h => askr w a0 a2 a3 a4 r (by rw [← hr]; exact cm_sc a0 a2 a1 a3 a4 (by rw [hx3, hx4]; exact h))
  have HC : Hid (a3 ≠ 21 → ∀ w', Below w.heap.size w w' → Calls Try.prog 4 #[.bool !a0, .int .u8 a1, .int .u8 a3, .int .u8 a4] w' (AskR w r)) := Lib.hid fun h => askr w (!a0) a1 a3 a4 r (by rw [← hr]; exact cm_ts (!a0) a0 a1 a3 a4 h)
  have HD : Hid ((r = 4 ∨ r = 5) → ∀ w', Below w.heap.size w w' → Calls Try.prog 4 #[.bool a0, .int .u8 a1, .int .u8 a4, .int .u8 a3] w' (AskR w r)) := Lib.hid fun h => askr w a0 a1 a4 a3 r (by rw [cm_swap a0 a1 a3 a4 (by rw [hr]; exact h)]; exact hr)
  clear hr hx3 hx4
  have h21 : (a3 = 21) ∨ (a3 ≠ 21 ∧ (a3 != 21) = true) := by
    by_cases h : a3 = 21
    · exact .inl h
    · exact .inr ⟨h, by simp; exact h⟩
  have hr45 : (r = 4) ∨ (r = 5) ∨ ((r == 4) = false ∧ (r == 5) = false) := by
    by_cases h : r = 4
    · exact .inl h
    · by_cases h' : r = 5
      · exact .inr (.inl h')
      · exact .inr (.inr ⟨by simpa using h, by simpa using h'⟩)
  have hx : (x3 = true ∧ x4 = true) ∨ (x3 = true ∧ x4 = false) ∨ (x3 = false) := by cases x3 <;> cases x4 <;> simp
  rcases hx with ⟨rfl, rfl⟩ | ⟨rfl, rfl⟩ | rfl
  · rcases h21 with rfl | ⟨h21, h21'⟩
    · rcases hr45 with rfl | rfl | ⟨h4, h5⟩
      · go_enter Try.func3, Try.ntmps3
        go_wp2_with fail
        refine (HA.out _ hb0).mono ?_
        rintro e w1 ⟨rfl, hb1⟩
        go_wp2_with fail
        refine (H3.out _).mono ?_
        rintro e w' ⟨rfl, rfl⟩
        go_wp2_with fail
        refine (H4.out _).mono ?_
        rintro e w' ⟨rfl, rfl⟩
        go_wp2_with fail
        refine (HD.out (by simp) _ hb1).mono ?_
        rintro e w4 ⟨rfl, hb4⟩
        go_wp2_with fail
        go_ret
        exact ⟨rfl, hb4⟩
      · go_enter Try.func3, Try.ntmps3
        go_wp2_with fail
        refine (HA.out _ hb0).mono ?_
        rintro e w1 ⟨rfl, hb1⟩
        go_wp2_with fail
        refine (H3.out _).mono ?_
        rintro e w' ⟨rfl, rfl⟩
        go_wp2_with fail
        refine (H4.out _).mono ?_
        rintro e w' ⟨rfl, rfl⟩
        go_wp2_with fail
        refine (HD.out (by simp) _ hb1).mono ?_
        rintro e w4 ⟨rfl, hb4⟩
        go_wp2_with fail
        go_ret
        exact ⟨rfl, hb4⟩
      · go_enter Try.func3, Try.ntmps3
        go_wp2_with fail
        refine (HA.out _ hb0).mono ?_
        rintro e w1 ⟨rfl, hb1⟩
        go_wp2_with fail
        refine (H3.out _).mono ?_
        rintro e w' ⟨rfl, rfl⟩
        go_wp2_with fail
        refine (H4.out _).mono ?_
        rintro e w' ⟨rfl, rfl⟩
        go_wp2_with fail
        go_ret
        exact ⟨rfl, hb1⟩
    · rcases hr45 with rfl | rfl | ⟨h4, h5⟩
      · go_enter Try.func3, Try.ntmps3
        go_wp2_with fail
        refine (HA.out _ hb0).mono ?_
        rintro e w1 ⟨rfl, hb1⟩
        go_wp2_with fail
        refine (H3.out _).mono ?_
        rintro e w' ⟨rfl, rfl⟩
        go_wp2_with fail
        refine (H4.out _).mono ?_
        rintro e w' ⟨rfl, rfl⟩
        go_wp2_with fail
        refine (HC.out h21 _ hb1).mono ?_
        rintro e w3 ⟨rfl, hb3⟩
        go_wp2_with fail
        refine (HD.out (by simp) _ hb3).mono ?_
        rintro e w4 ⟨rfl, hb4⟩
        go_wp2_with fail
        go_ret
        exact ⟨rfl, hb4⟩
      · go_enter Try.func3, Try.ntmps3
        go_wp2_with fail
        refine (HA.out _ hb0).mono ?_
        rintro e w1 ⟨rfl, hb1⟩
        go_wp2_with fail
        refine (H3.out _).mono ?_
        rintro e w' ⟨rfl, rfl⟩
        go_wp2_with fail
        refine (H4.out _).mono ?_
        rintro e w' ⟨rfl, rfl⟩
        go_wp2_with fail
        refine (HC.out h21 _ hb1).mono ?_
        rintro e w3 ⟨rfl, hb3⟩
        go_wp2_with fail
        refine (HD.out (by simp) _ hb3).mono ?_
        rintro e w4 ⟨rfl, hb4⟩
        go_wp2_with fail
        go_ret
        exact ⟨rfl, hb4⟩
      · go_enter Try.func3, Try.ntmps3
        go_wp2_with fail
        refine (HA.out _ hb0).mono ?_
        rintro e w1 ⟨rfl, hb1⟩
        go_wp2_with fail
        refine (H3.out _).mono ?_
        rintro e w' ⟨rfl, rfl⟩
        go_wp2_with fail
        refine (H4.out _).mono ?_
        rintro e w' ⟨rfl, rfl⟩
        go_wp2_with fail
        refine (HC.out h21 _ hb1).mono ?_
        rintro e w3 ⟨rfl, hb3⟩
        go_wp2_with fail
        go_ret
        exact ⟨rfl, hb3⟩
  · rcases h21 with rfl | ⟨h21, h21'⟩
    · rcases hr45 with rfl | rfl | ⟨h4, h5⟩
      · go_enter Try.func3, Try.ntmps3
        go_wp2_with fail
        refine (HA.out _ hb0).mono ?_
        rintro e w1 ⟨rfl, hb1⟩
        go_wp2_with fail
        refine (H3.out _).mono ?_
        rintro e w' ⟨rfl, rfl⟩
        go_wp2_with fail
        refine (H4.out _).mono ?_
        rintro e w' ⟨rfl, rfl⟩
        go_wp2_with fail
        refine (HB.out (by simp) _ hb1).mono ?_
        rintro e w2 ⟨rfl, hb2⟩
        go_wp2_with fail
        refine (HD.out (by simp) _ hb2).mono ?_
        rintro e w4 ⟨rfl, hb4⟩
        go_wp2_with fail
        go_ret
        exact ⟨rfl, hb4⟩
      · go_enter Try.func3, Try.ntmps3
        go_wp2_with fail
        refine (HA.out _ hb0).mono ?_
        rintro e w1 ⟨rfl, hb1⟩
        go_wp2_with fail
        refine (H3.out _).mono ?_
        rintro e w' ⟨rfl, rfl⟩
        go_wp2_with fail
        refine (H4.out _).mono ?_
        rintro e w' ⟨rfl, rfl⟩
        go_wp2_with fail
        refine (HB.out (by simp) _ hb1).mono ?_
        rintro e w2 ⟨rfl, hb2⟩
        go_wp2_with fail
        refine (HD.out (by simp) _ hb2).mono ?_
        rintro e w4 ⟨rfl, hb4⟩
        go_wp2_with fail
        go_ret
        exact ⟨rfl, hb4⟩
      · go_enter Try.func3, Try.ntmps3
        go_wp2_with fail
        refine (HA.out _ hb0).mono ?_
        rintro e w1 ⟨rfl, hb1⟩
        go_wp2_with fail
        refine (H3.out _).mono ?_
        rintro e w' ⟨rfl, rfl⟩
        go_wp2_with fail
        refine (H4.out _).mono ?_
        rintro e w' ⟨rfl, rfl⟩
        go_wp2_with fail
        refine (HB.out (by simp) _ hb1).mono ?_
        rintro e w2 ⟨rfl, hb2⟩
        go_wp2_with fail
        go_ret
        exact ⟨rfl, hb2⟩
    · rcases hr45 with rfl | rfl | ⟨h4, h5⟩
      · go_enter Try.func3, Try.ntmps3
        go_wp2_with fail
        refine (HA.out _ hb0).mono ?_
        rintro e w1 ⟨rfl, hb1⟩
        go_wp2_with fail
        refine (H3.out _).mono ?_
        rintro e w' ⟨rfl, rfl⟩
        go_wp2_with fail
        refine (H4.out _).mono ?_
        rintro e w' ⟨rfl, rfl⟩
        go_wp2_with fail
        refine (HB.out (by simp) _ hb1).mono ?_
        rintro e w2 ⟨rfl, hb2⟩
        go_wp2_with fail
        refine (HC.out h21 _ hb2).mono ?_
        rintro e w3 ⟨rfl, hb3⟩
        go_wp2_with fail
        refine (HD.out (by simp) _ hb3).mono ?_
        rintro e w4 ⟨rfl, hb4⟩
        go_wp2_with fail
        go_ret
        exact ⟨rfl, hb4⟩
      · go_enter Try.func3, Try.ntmps3
        go_wp2_with fail
        refine (HA.out _ hb0).mono ?_
        rintro e w1 ⟨rfl, hb1⟩
        go_wp2_with fail
        refine (H3.out _).mono ?_
        rintro e w' ⟨rfl, rfl⟩
        go_wp2_with fail
        refine (H4.out _).mono ?_
        rintro e w' ⟨rfl, rfl⟩
        go_wp2_with fail
        refine (HB.out (by simp) _ hb1).mono ?_
        rintro e w2 ⟨rfl, hb2⟩
        go_wp2_with fail
        refine (HC.out h21 _ hb2).mono ?_
        rintro e w3 ⟨rfl, hb3⟩
        go_wp2_with fail
        refine (HD.out (by simp) _ hb3).mono ?_
        rintro e w4 ⟨rfl, hb4⟩
        go_wp2_with fail
        go_ret
        exact ⟨rfl, hb4⟩
      · go_enter Try.func3, Try.ntmps3
        go_wp2_with fail
        refine (HA.out _ hb0).mono ?_
        rintro e w1 ⟨rfl, hb1⟩
        go_wp2_with fail
        refine (H3.out _).mono ?_
        rintro e w' ⟨rfl, rfl⟩
        go_wp2_with fail
        refine (H4.out _).mono ?_
        rintro e w' ⟨rfl, rfl⟩
        go_wp2_with fail
        refine (HB.out (by simp) _ hb1).mono ?_
        rintro e w2 ⟨rfl, hb2⟩
        go_wp2_with fail
        refine (HC.out h21 _ hb2).mono ?_
        rintro e w3 ⟨rfl, hb3⟩
        go_wp2_with fail
        go_ret
        exact ⟨rfl, hb3⟩
  · rcases h21 with rfl | ⟨h21, h21'⟩
    · rcases hr45 with rfl | rfl | ⟨h4, h5⟩
      · go_enter Try.func3, Try.ntmps3
        go_wp2_with fail
        refine (HA.out _ hb0).mono ?_
        rintro e w1 ⟨rfl, hb1⟩
        go_wp2_with fail
        refine (H3.out _).mono ?_
        rintro e w' ⟨rfl, rfl⟩
        go_wp2_with fail
        refine (HB.out (by simp) _ hb1).mono ?_
        rintro e w2 ⟨rfl, hb2⟩
        go_wp2_with fail
        refine (HD.out (by simp) _ hb2).mono ?_
        rintro e w4 ⟨rfl, hb4⟩
        go_wp2_with fail
        go_ret
        exact ⟨rfl, hb4⟩
      · go_enter Try.func3, Try.ntmps3
        go_wp2_with fail
        refine (HA.out _ hb0).mono ?_
        rintro e w1 ⟨rfl, hb1⟩
        go_wp2_with fail
        refine (H3.out _).mono ?_
        rintro e w' ⟨rfl, rfl⟩
        go_wp2_with fail
        refine (HB.out (by simp) _ hb1).mono ?_
        rintro e w2 ⟨rfl, hb2⟩
        go_wp2_with fail
        refine (HD.out (by simp) _ hb2).mono ?_
        rintro e w4 ⟨rfl, hb4⟩
        go_wp2_with fail
        go_ret
        exact ⟨rfl, hb4⟩
      · go_enter Try.func3, Try.ntmps3
        go_wp2_with fail
        refine (HA.out _ hb0).mono ?_
        rintro e w1 ⟨rfl, hb1⟩
        go_wp2_with fail
        refine (H3.out _).mono ?_
        rintro e w' ⟨rfl, rfl⟩
        go_wp2_with fail
        refine (HB.out (by simp) _ hb1).mono ?_
        rintro e w2 ⟨rfl, hb2⟩
        go_wp2_with fail
        go_ret
        exact ⟨rfl, hb2⟩
    · rcases hr45 with rfl | rfl | ⟨h4, h5⟩
      · go_enter Try.func3, Try.ntmps3
        go_wp2_with fail
        refine (HA.out _ hb0).mono ?_
        rintro e w1 ⟨rfl, hb1⟩
        go_wp2_with fail
        refine (H3.out _).mono ?_
        rintro e w' ⟨rfl, rfl⟩
        go_wp2_with fail
        refine (HB.out (by simp) _ hb1).mono ?_
        rintro e w2 ⟨rfl, hb2⟩
        go_wp2_with fail
        refine (HC.out h21 _ hb2).mono ?_
        rintro e w3 ⟨rfl, hb3⟩
        go_wp2_with fail
        refine (HD.out (by simp) _ hb3).mono ?_
        rintro e w4 ⟨rfl, hb4⟩
        go_wp2_with fail
        go_ret
        exact ⟨rfl, hb4⟩
      · go_enter Try.func3, Try.ntmps3
        go_wp2_with fail
        refine (HA.out _ hb0).mono ?_
        rintro e w1 ⟨rfl, hb1⟩
        go_wp2_with fail
        refine (H3.out _).mono ?_
        rintro e w' ⟨rfl, rfl⟩
        go_wp2_with fail
        refine (HB.out (by simp) _ hb1).mono ?_
        rintro e w2 ⟨rfl, hb2⟩
        go_wp2_with fail
        refine (HC.out h21 _ hb2).mono ?_
        rintro e w3 ⟨rfl, hb3⟩
        go_wp2_with fail
        refine (HD.out (by simp) _ hb3).mono ?_
        rintro e w4 ⟨rfl, hb4⟩
        go_wp2_with fail
        go_ret
        exact ⟨rfl, hb4⟩
      · go_enter Try.func3, Try.ntmps3
        go_wp2_with fail
        refine (HA.out _ hb0).mono ?_
        rintro e w1 ⟨rfl, hb1⟩
        go_wp2_with fail
        refine (H3.out _).mono ?_
        rintro e w' ⟨rfl, rfl⟩
        go_wp2_with fail
        refine (HB.out (by simp) _ hb1).mono ?_
        rintro e w2 ⟨rfl, hb2⟩
        go_wp2_with fail
        refine (HC.out h21 _ hb2).mono ?_
        rintro e w3 ⟨rfl, hb3⟩
        go_wp2_with fail
        go_ret
        exact ⟨rfl, hb3⟩

/-! ### THE ROW's STEP: WRITTEN OUT: LEAVE IT -/
set_option maxRecDepth 100000 in
theorem lifted (os : Os) (started : os.Started) (H : Type) (enc : TypeId × Value → H) :
    ReturnsInHanded {} Try.checked os 3 .any (Rows.fnCanMergeSymbolsScopeAndTSOnlyWhereDocumentedSpec.pre6 enc Try.prog Try.f3 Rows.fnCanMergeSymbolsScopeAndTSOnlyWhereDocumentedRow.domain false) (Rows.fnCanMergeSymbolsScopeAndTSOnlyWhereDocumentedSpec.post enc Try.prog Try.f3 false true false false) := by
  refine returnsInHanded_of_change (C := Try.checked) own started (by kernel_rfl) Try.func3
    (ChangeSpec.witness6 (enc := enc) (C := Try.checked) false ⟨#[], #[.bool false, .int .u8 0, .int .u8 0, .int .u8 0, .int .u8 0], []⟩ 8 (by kernel_rfl) (by kernel_rfl) (by kernel_rfl) (by kernel_rfl)) ?_
  intro W base args ds gs before hval0 hW hcnd _
  have hval : ∀ (j : Nat) t v, Try.f3.params[j]? = some t → args[j]? = some v → Value.okWide Try.prog W .any base t v := hval0
  have hW' := hW
  obtain ⟨p, q, hA0, hV, rfl, hfz, hnd⟩ := hW
  have hA : DataW.TrodAll enc Try.prog W 0 (fun _ => true) true Try.f3.params.toList args.toList ds p := hA0
  rw [Try.params3] at hA hval
  obtain ⟨v0, vs0, d0, ds0, p0, q0, hargs, rfl, rfl, h0, r0⟩ := trodAll_cons hA
  obtain ⟨v1, vs1, d1, ds1, p1, q1, rfl, rfl, rfl, h1, r1⟩ := trodAll_cons r0
  obtain ⟨v2, vs2, d2, ds2, p2, q2, rfl, rfl, rfl, h2, r2⟩ := trodAll_cons r1
  obtain ⟨v3, vs3, d3, ds3, p3, q3, rfl, rfl, rfl, h3, r3⟩ := trodAll_cons r2
  obtain ⟨v4, vs4, d4, ds4, p4, q4, rfl, rfl, rfl, h4, r4⟩ := trodAll_cons r3
  obtain ⟨rfl, rfl, rfl⟩ := trodAll_nil r4
  obtain rfl : args = #[v0, v1, v2, v3, v4] := by cases args; simp_all
  obtain ⟨rfl, rfl⟩ := trodVars_none hV
  obtain ⟨a0, rfl, rfl, rfl⟩ := open_bool Try.underlying4 (hval 0 4 v0 rfl rfl) h0
  obtain ⟨a1, rfl, rfl, rfl, w1⟩ := open_int Try.underlying5 (hval 1 5 v1 rfl rfl) h1
  obtain ⟨a2, rfl, rfl, rfl, w2⟩ := open_int Try.underlying5 (hval 2 5 v2 rfl rfl) h2
  obtain ⟨a3, rfl, rfl, rfl, w3⟩ := open_int Try.underlying5 (hval 3 5 v3 rfl rfl) h3
  obtain ⟨a4, rfl, rfl, rfl, w4⟩ := open_int Try.underlying5 (hval 4 5 v4 rfl rfl) h4
  clear hA0 hval0
  simp only [List.append_nil] at hW'
  refine (walk a0 a1 a2 a3 a4 w1 w2 w3 w4 W).mono fun e W' ⟨he, bel⟩ => ?_
  subst he
  exact ⟨_, rfl, _, _, _, [], _, [], hW', (trodAll_cons_mk (shut_bool Try.underlying4 _) trodAll_mk0), (trodAll_cons_mk (shut_bool Try.underlying4 _) (trodAll_cons_mk (shut_int Try.underlying5 w1) (trodAll_cons_mk (shut_int Try.underlying5 w2) (trodAll_cons_mk (shut_int Try.underlying5 w3) (trodAll_cons_mk (shut_int Try.underlying5 w4) trodAll_mk0))))), rfl, bel.frame _, fun h => by cases h⟩

theorem over : Rows.fnCanMergeSymbolsScopeAndTSOnlyWhereDocumentedRow.holds Try.pinned (OpenSpec.ofChange Rows.fnCanMergeSymbolsScopeAndTSOnlyWhereDocumentedSpec) :=
  OpenClaim.holds_of_wide 3 Try.f3 rfl rfl rfl rfl rfl rfl rfl ⟨rfl, rfl, rfl, rfl, rfl⟩ rfl rfl rfl rfl rfl (by kernel_rfl) Try.func3 (by kernel_rfl)
    (of_decide_eq_true (by kernel_rfl)) (by unfold Func.isWrapper; first | (rw [if_pos (by decide +kernel)]; kernel_rfl) | (rw [if_neg (by decide +kernel)]; exact ⟨rfl, rfl⟩))
    (fun os started H enc _ => lifted os started H enc)

/-- ████ THE STATEMENT ████ -/
theorem proved : Rows.FnCanMergeSymbolsScopeAndTSOnlyWhereDocumentedSaid :=
  over
#print axioms proved
end Go.Proofs.Ytnemldibhdphoaa.fnCanMergeSymbolsScopeAndTSOnlyWhereDocumented
