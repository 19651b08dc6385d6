/-
  The statement FnWithSignFromRoundTripAndAbs: for every two float64 words the law returns true. No condition.
-/
import Derived.Test.YtdiadeebboojgaaRows
import Derived.WalkKit
import Derived.ProofKit
import Derived.OpenShut
import Derived.ShutString
import Derived.ChangeOld
import Derived.Below
import Derived.Test.YtdiadeebboojgaaRg
import Derived.Deep.CutBlock
namespace Go.Proofs.Ytdiadeebboojgaa.fnWithSignFromRoundTripAndAbs
open Go.ChangeShapes Go.WideShapes Go.ChangeAt Go.RowKit
open Go.ChangeMaps (open_string shut_string)
set_option linter.unusedVariables false

theorem own : ownKnob Try.prog.godebug = none := by kernel_rfl
theorem laidOut : laidOutB Try.prog = true := by kernel_rfl

open Go.Proofs.Ytdiadeebboojgaa.fl
set_option maxRecDepth 100000
set_option maxHeartbeats 4000000
theorem walk (a0 : Nat) (a1 : Nat) (w : World) (w0 : (Lit.float .f64 a0).wf = true) (w1 : (Lit.float .f64 a1).wf = true) :
    Calls Try.prog 3 #[.float .f64 a0, .float .f64 a1] w fun e w' => e = .returned (.bool true) ∧ Below w.heap.size w w' := by
  have hx : a0 < 18446744073709551616 := by simpa [Lit.wf] using w0
  have hy : a1 < 18446744073709551616 := by simpa [Lit.wf] using w1
  clear w0 w1
  have hy0 := cs_lt a0 a1 hy
  have H1 := Lib.hid (same (cs (cs a0 a1) a0) a0 (cs_lt _ _ hx) (.inl (cs_back a0 a1 hx)))
  have H2 := Lib.hid (same (cs (cs a0 a1) a1) (cs a0 a1) (cs_lt _ _ hy) (.inl (cs_twice a0 a1)))
  have H3 := Lib.hid (same (cs a0 4607182418800017408) (cs a0 0) (cs_lt _ _ (by omega)) (.inl (cs_one a0)))
  have H4 := Lib.hid (same (cs a0 13830554455654793216) (Op.negFloat .f64 (cs a0 0)) (cs_lt _ _ (by omega)) (.inl (neg_abs a0).symm))
  have HC := Lib.hid (copysign a0 a1 hx hy)
  generalize cs a0 a1 = y0 at *
  go_enter Try.func3, Try.ntmps3
  go_upto_region 2 with (go_at_call 5; refine (new _ _).mono ?_; rintro e w1 ⟨rfl, hb1⟩)
  have kb : (w1.alloc (Obj.cells #[Value.float FloatKind.f64 a0] 24)).cell? ⟨w1.heap.size, 0, none⟩ = some (.float .f64 a0) := (cell_of_row _ _ 0 _ _ _ (heap_alloc_new w1 _)).trans rfl
  have BB : Below w.heap.size w (w1.alloc (Obj.cells #[Value.float FloatKind.f64 a0] 24)) := hb1.alloc hb1.size _
  clear hb1
  generalize w1.alloc (Obj.cells #[Value.float FloatKind.f64 a0] 24) = w2 at *
  generalize w1.heap.size = b at *
  try simp only [Act.put, List.setIfInBounds_toArray, List.set_cons_zero, List.set_cons_succ]
  refine reg_use (ops := fl.ops2) (by kernel_rfl) ?_
  refine fl.reg2 w2 b a0 a1 y0 HC.out rfl rfl rfl kb ?_
  intro c w3 hb4 hle kc
  replace kb := (hb4.cell (p := ⟨b, 0, none⟩) (block_lt_of_cell kb)).trans kb
  replace BB := BB.trans (hb4.mono BB.size)
  clear hb4 hle HC
  try simp only [Act.put, List.setIfInBounds_toArray, List.set_cons_zero, List.set_cons_succ]
  go_upto_region 5 with (first | (go_at_call 6; refine (copysign y0 a0 hy0 hx _).mono ?_; rintro e w4 ⟨rfl, hb4⟩; replace kb := (hb4.cell (p := ⟨b, 0, none⟩) (block_lt_of_cell kb)).trans kb; replace kc := (hb4.cell (p := ⟨c, 0, none⟩) (block_lt_of_cell kc)).trans kc; replace BB := BB.trans (hb4.mono BB.size); clear hb4) | (go_at_call 8; refine (value _ _).mono ?_; rintro e w4 ⟨rfl, hb4⟩; replace kb := (hb4.cell (p := ⟨b, 0, none⟩) (block_lt_of_cell kb)).trans kb; replace kc := (hb4.cell (p := ⟨c, 0, none⟩) (block_lt_of_cell kc)).trans kc; replace BB := BB.trans (hb4.mono BB.size); clear hb4) | (go_at_call 7; refine (H1.out _).mono ?_; rintro e w4 ⟨rfl, rfl⟩))
  try simp only [Act.put, List.setIfInBounds_toArray, List.set_cons_zero, List.set_cons_succ]
  clear H1
  refine reg_use (ops := fl.ops5) (by kernel_rfl) ?_
  refine fl.reg5 _ b c a0 a1 y0 hx hy hy0 rfl rfl rfl rfl kb kc H2.out ?_
  intro w5 hb4
  replace kb := (hb4.cell (p := ⟨b, 0, none⟩) (block_lt_of_cell kb)).trans kb; replace kc := (hb4.cell (p := ⟨c, 0, none⟩) (block_lt_of_cell kc)).trans kc; replace BB := BB.trans (hb4.mono BB.size); clear hb4
  try simp only [Act.put, List.setIfInBounds_toArray, List.set_cons_zero, List.set_cons_succ]
  go_upto_region 7 with (fail)
  try simp only [Act.put, List.setIfInBounds_toArray, List.set_cons_zero, List.set_cons_succ]
  clear H2
  refine reg_use (ops := fl.ops7) (by kernel_rfl) ?_
  refine fl.reg7 _ b c a0 a1 y0 hx hy hy0 rfl rfl rfl rfl kb kc H3.out ?_
  intro w5 hb4
  replace kb := (hb4.cell (p := ⟨b, 0, none⟩) (block_lt_of_cell kb)).trans kb; replace kc := (hb4.cell (p := ⟨c, 0, none⟩) (block_lt_of_cell kc)).trans kc; replace BB := BB.trans (hb4.mono BB.size); clear hb4
  try simp only [Act.put, List.setIfInBounds_toArray, List.set_cons_zero, List.set_cons_succ]
  go_upto_region 9 with (fail)
  try simp only [Act.put, List.setIfInBounds_toArray, List.set_cons_zero, List.set_cons_succ]
  clear H3
  refine reg_use (ops := fl.ops9) (by kernel_rfl) ?_
  refine fl.reg9 _ b c a0 a1 y0 hx hy hy0 rfl rfl rfl rfl kb kc H4.out ?_
  intro w5 hb4
  replace kb := (hb4.cell (p := ⟨b, 0, none⟩) (block_lt_of_cell kb)).trans kb; replace kc := (hb4.cell (p := ⟨c, 0, none⟩) (block_lt_of_cell kc)).trans kc; replace BB := BB.trans (hb4.mono BB.size); clear hb4
  try simp only [Act.put, List.setIfInBounds_toArray, List.set_cons_zero, List.set_cons_succ]
  go_wp2_with fail
  go_ret
  exact ⟨rfl, BB⟩

set_option maxRecDepth 100000 in
theorem lifted (os : Os) (started : os.Started) (H : Type) (enc : TypeId × Value → H) :
    ReturnsInHanded {} Try.checked os 3 .any (Rows.fnWithSignFromRoundTripAndAbsSpec.pre6 enc Try.prog Try.f3 Rows.fnWithSignFromRoundTripAndAbsRow.domain false) (Rows.fnWithSignFromRoundTripAndAbsSpec.post enc Try.prog Try.f3 false true false false) := by
  refine returnsInHanded_of_change (C := Try.checked) own started (by kernel_rfl) Try.func3
    (ChangeSpec.witness6 (enc := enc) (C := Try.checked) false ⟨#[], #[.float .f64 0, .float .f64 0], []⟩ 8 (by kernel_rfl) (by kernel_rfl) (by kernel_rfl) (by kernel_rfl)) ?_
  intro W base args ds gs before hval0 hW hcnd _
  have hval : ∀ (j : Nat) t v, Try.f3.params[j]? = some t → args[j]? = some v → Value.okWide Try.prog W .any base t v := hval0
  have hW' := hW
  obtain ⟨p, q, hA0, hV, rfl, hfz, hnd⟩ := hW
  have hA : DataW.TrodAll enc Try.prog W 0 (fun _ => true) true Try.f3.params.toList args.toList ds p := hA0
  rw [Try.params3] at hA hval
  obtain ⟨v0, vs0, d0, ds0, p0, q0, hargs, rfl, rfl, h0, r0⟩ := trodAll_cons hA
  obtain ⟨v1, vs1, d1, ds1, p1, q1, rfl, rfl, rfl, h1, r1⟩ := trodAll_cons r0
  obtain ⟨rfl, rfl, rfl⟩ := trodAll_nil r1
  obtain rfl : args = #[v0, v1] := by cases args; simp_all
  obtain ⟨rfl, rfl⟩ := trodVars_none hV
  obtain ⟨a0, rfl, rfl, rfl, w0⟩ := open_float Try.underlying22 (hval 0 22 v0 rfl rfl) h0
  obtain ⟨a1, rfl, rfl, rfl, w1⟩ := open_float Try.underlying22 (hval 1 22 v1 rfl rfl) h1
  clear hA0 hval0
  refine (walk a0 a1 W w0 w1).mono fun e W' ⟨he, bel⟩ => ?_
  subst he
  exact ⟨_, rfl, _, _, _, [], _, [], hW', trodAll_mk1 (shut_bool Try.underlying4 _), (trodAll_cons_mk (shut_float Try.underlying22 w0) (trodAll_cons_mk (shut_float Try.underlying22 w1) trodAll_mk0)), rfl, bel.frame _, fun h => by cases h⟩

theorem over : Rows.fnWithSignFromRoundTripAndAbsRow.holds Try.pinned (OpenSpec.ofChange Rows.fnWithSignFromRoundTripAndAbsSpec) :=
  OpenClaim.holds_of_wide 3 Try.f3 rfl rfl rfl rfl rfl rfl rfl ⟨rfl, rfl, rfl, rfl, rfl⟩ rfl rfl rfl rfl rfl (by kernel_rfl) Try.func3 (by kernel_rfl)
    (of_decide_eq_true (by kernel_rfl)) (by unfold Func.isWrapper; first | (rw [if_pos (by decide +kernel)]; kernel_rfl) | (rw [if_neg (by decide +kernel)]; exact ⟨rfl, rfl⟩))
    (fun os started H enc _ => lifted os started H enc)

/-- THE STATEMENT -/
theorem proved : Rows.FnWithSignFromRoundTripAndAbsSaid := over
#print axioms proved
end Go.Proofs.Ytdiadeebboojgaa.fnWithSignFromRoundTripAndAbs
