/-
  The statement FnMergeIntoAssociative: merging a into c and then b into the result gives the same deferred errors as merging b into a first and then merging that into c. No condition.
-/
import Derived.Test.YtjomfebcigiekaaRows
import Derived.WalkKit
import Derived.ProofKit
import Derived.OpenShut
import Derived.ShutString
import Derived.ChangeOld
import Derived.Below
import Derived.Test.YtjomfebcigiekaaDk
namespace Go.Proofs.Ytjomfebcigiekaa.fnMergeIntoAssociative
open Go.ChangeShapes Go.WideShapes Go.ChangeAt Go.RowKit
open Go.ChangeMaps (open_string shut_string)
set_option linter.unusedVariables false

theorem own : ownKnob Try.prog.godebug = none := by kernel_rfl
theorem laidOut : laidOutB Try.prog = true := by kernel_rfl

open Go.Proofs.Ytjomfebcigiekaa.de
theorem walk (p0 : Nat → Int) (x0 : Option Addr) (n0 c0 : Nat) (z0 : Nat → Int) (p1 : Nat → Int) (x1 : Option Addr) (n1 c1 : Nat) (z1 : Nat → Int) (p2 : Nat → Int) (x2 : Option Addr) (n2 c2 : Nat) (z2 : Nat → Int) (w : World) (hn0 : n0 ≤ maxLen) (hnil0 : x0 = none → n0 = 0 ∧ c0 = 0) (hr0 : Row w x0 (n0 * 2) (zc z0)) (hn1 : n1 ≤ maxLen) (hnil1 : x1 = none → n1 = 0 ∧ c1 = 0) (hr1 : Row w x1 (n1 * 2) (zc z1)) (hn2 : n2 ≤ maxLen) (hnil2 : x2 = none → n2 = 0 ∧ c2 = 0) (hr2 : Row w x2 (n2 * 2) (zc z2)) :
    Calls Try.prog 4 #[.agg (dA p0 x0 n0 c0), .agg (dA p1 x1 n1 c1), .agg (dA p2 x2 n2 c2)] w fun e w' => e = .returned (.bool true) ∧ Below w.heap.size w w' := by
  exact de.law14 w p0 p1 p2 x0 x1 x2 n0 c0 n1 c1 n2 c2 z0 z1 z2 hn0 hn1 hn2 hr0 hr1 hr2 hnil0 hnil1 hnil2

set_option maxRecDepth 100000 in
theorem lifted (os : Os) (started : os.Started) (H : Type) (enc : TypeId × Value → H) :
    ReturnsInHanded {} Try.checked os 4 .any (Rows.fnMergeIntoAssociativeSpec.pre6 enc Try.prog Try.f4 Rows.fnMergeIntoAssociativeRow.domain false) (Rows.fnMergeIntoAssociativeSpec.post enc Try.prog Try.f4 false true false false) := by
  refine returnsInHanded_of_change (C := Try.checked) own started (by kernel_rfl) Try.func4
    (ChangeSpec.witness6 (enc := enc) (C := Try.checked) false ⟨#[], #[.agg #[.int .i32 0, .int .i32 0, .int .i32 0, .int .i32 0, .int .i32 0, .int .i32 0, .slice none 0 0], .agg #[.int .i32 0, .int .i32 0, .int .i32 0, .int .i32 0, .int .i32 0, .int .i32 0, .slice none 0 0], .agg #[.int .i32 0, .int .i32 0, .int .i32 0, .int .i32 0, .int .i32 0, .int .i32 0, .slice none 0 0]], []⟩ 8 (by kernel_rfl) (by kernel_rfl) (by kernel_rfl) (by kernel_rfl)) ?_
  intro W base args ds gs before hval0 hW hcnd _
  have hval : ∀ (j : Nat) t v, Try.f4.params[j]? = some t → args[j]? = some v → Value.okWide Try.prog W .any base t v := hval0
  have hW' := hW
  obtain ⟨p, q, hA0, hV, rfl, hfz, hnd⟩ := hW
  have hA : DataW.TrodAll enc Try.prog W 0 (fun _ => true) true Try.f4.params.toList args.toList ds p := hA0
  rw [Try.params4] at hA hval
  obtain ⟨v0, vs0, d0, ds0, p0, q0, hargs, rfl, rfl, h0, r0⟩ := trodAll_cons hA
  obtain ⟨v1, vs1, d1, ds1, p1, q1, rfl, rfl, rfl, h1, r1⟩ := trodAll_cons r0
  obtain ⟨v2, vs2, d2, ds2, p2, q2, rfl, rfl, rfl, h2, r2⟩ := trodAll_cons r1
  obtain ⟨rfl, rfl, rfl⟩ := trodAll_nil r2
  obtain rfl : args = #[v0, v1, v2] := by cases args; simp_all
  obtain ⟨rfl, rfl⟩ := trodVars_none hV
  have k0 := h0
  have lt0 : ∀ x ∈ p0, x.block < W.heap.size := by obtain ⟨m, hm⟩ := k0; exact DataW.trod_lt m _ _ _ hm
  obtain ⟨pp0, x0, n0, c0, z0, rfl, hn0, hnil0, hr0⟩ := def_open (hval 0 31 v0 rfl rfl) h0
  have k1 := h1
  have lt1 : ∀ x ∈ p1, x.block < W.heap.size := by obtain ⟨m, hm⟩ := k1; exact DataW.trod_lt m _ _ _ hm
  obtain ⟨pp1, x1, n1, c1, z1, rfl, hn1, hnil1, hr1⟩ := def_open (hval 1 31 v1 rfl rfl) h1
  have k2 := h2
  have lt2 : ∀ x ∈ p2, x.block < W.heap.size := by obtain ⟨m, hm⟩ := k2; exact DataW.trod_lt m _ _ _ hm
  obtain ⟨pp2, x2, n2, c2, z2, rfl, hn2, hnil2, hr2⟩ := def_open (hval 2 31 v2 rfl rfl) h2
  clear hA0 hval0
  refine (walk pp0 x0 n0 c0 z0 pp1 x1 n1 c1 z1 pp2 x2 n2 c2 z2 W hn0 hnil0 hr0 hn1 hnil1 hr1 hn2 hnil2 hr2).mono fun e W' ⟨he, bel⟩ => ?_
  subst he
  exact ⟨_, rfl, _, _, _, [], _, [], hW', trodAll_mk1 (shut_bool Try.underlying4 _), (trodAll_cons_mk (Below.trod laidOut (by kernel_rfl) (of_decide_eq_true (by kernel_rfl)) k0 bel lt0) (trodAll_cons_mk (Below.trod laidOut (by kernel_rfl) (of_decide_eq_true (by kernel_rfl)) k1 bel lt1) (trodAll_cons_mk (Below.trod laidOut (by kernel_rfl) (of_decide_eq_true (by kernel_rfl)) k2 bel lt2) trodAll_mk0))), rfl, bel.frame _, fun h => by cases h⟩

theorem over : Rows.fnMergeIntoAssociativeRow.holds Try.pinned (OpenSpec.ofChange Rows.fnMergeIntoAssociativeSpec) :=
  OpenClaim.holds_of_wide 4 Try.f4 rfl rfl rfl rfl rfl rfl rfl ⟨rfl, rfl, rfl, rfl, rfl⟩ rfl rfl rfl rfl rfl (by kernel_rfl) Try.func4 (by kernel_rfl)
    (of_decide_eq_true (by kernel_rfl)) (by unfold Func.isWrapper; first | (rw [if_pos (by decide +kernel)]; kernel_rfl) | (rw [if_neg (by decide +kernel)]; exact ⟨rfl, rfl⟩))
    (fun os started H enc _ => lifted os started H enc)

/-- THE STATEMENT -/
theorem proved : Rows.FnMergeIntoAssociativeSaid := over
#print axioms proved
end Go.Proofs.Ytjomfebcigiekaa.fnMergeIntoAssociative
