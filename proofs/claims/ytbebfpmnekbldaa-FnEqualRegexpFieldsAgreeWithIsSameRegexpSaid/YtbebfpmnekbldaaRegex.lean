/-
  The statement FnEqualRegexpFieldsAgreeWithIsSameRegexp: with all other fields alike, Equal answers exactly whether both regexp fields are the same by isSameRegexp. No condition.
-/
import Derived.Test.YtbebfpmnekbldaaRows
import Derived.WalkKit
import Derived.ProofKit
import Derived.OpenShut
import Derived.ShutString
import Derived.ChangeOld
import Derived.Below
import Derived.Test.YtbebfpmnekbldaaOt
namespace Go.Proofs.Ytbebfpmnekbldaa.fnEqualRegexpFieldsAgreeWithIsSameRegexp
open Go.ChangeShapes Go.WideShapes Go.ChangeAt Go.RowKit
open Go.ChangeMaps (open_string shut_string)
set_option linter.unusedVariables false

theorem own : ownKnob Try.prog.godebug = none := by kernel_rfl
theorem laidOut : laidOutB Try.prog = true := by kernel_rfl

open Go.Proofs.Ytbebfpmnekbldaa.op
theorem walk (n : Int) (env : ByteArray) (f g h : Int) (mn rn : Bool) (la : Option Addr) (ln lc : Nat) (V : Nat → ByteArray) (a1 : Bool) (a2 : Bool) (a3 : Bool) (a4 : Bool) (w : World) (w0 : (Lit.int .u16 n).wf = true) (z0 : IsStrs w la ln lc V) :
    Calls Try.prog 5 #[.agg #[.int .u16 n, .string env, .int .u64 f, .int .u64 g, .int .u64 h, .bool mn, .bool rn, .slice la ln lc], .bool a1, .bool a2, .bool a3, .bool a4] w fun e w' => e = .returned (.bool true) ∧ Below w.heap.size w w' := by
  exact op.walk25 w ⟨n, env, f, g, h, mn, rn, la, ln, lc, V⟩ a1 a2 a3 a4 ⟨(show 0 ≤ n ∧ n < 65536 from by have h0 := w0; simp [Lit.wf] at h0; have e1 : IntKind.u16.min = 0 := (by decide); have e2 : IntKind.u16.max = 65535 := (by decide); rw [e1, e2] at h0; omega), z0⟩

set_option maxRecDepth 100000 in
theorem lifted (os : Os) (started : os.Started) (H : Type) (enc : TypeId × Value → H) :
    ReturnsInHanded {} Try.checked os 5 .any (Rows.fnEqualRegexpFieldsAgreeWithIsSameRegexpSpec.pre6 enc Try.prog Try.f5 Rows.fnEqualRegexpFieldsAgreeWithIsSameRegexpRow.domain false) (Rows.fnEqualRegexpFieldsAgreeWithIsSameRegexpSpec.post enc Try.prog Try.f5 false true false false) := by
  refine returnsInHanded_of_change (C := Try.checked) own started (by kernel_rfl) Try.func5
    (ChangeSpec.witness6 (enc := enc) (C := Try.checked) false ⟨#[], #[.agg #[.int .u16 0, .string ByteArray.empty, .int .u64 0, .int .u64 0, .int .u64 0, .bool false, .bool false, .slice none 0 0], .bool false, .bool false, .bool false, .bool false], []⟩ 8 (by kernel_rfl) (by kernel_rfl) (by kernel_rfl) (by kernel_rfl)) ?_
  intro W base args ds gs before hval0 hW hcnd _
  have hval : ∀ (j : Nat) t v, Try.f5.params[j]? = some t → args[j]? = some v → Value.okWide Try.prog W .any base t v := hval0
  have hW' := hW
  obtain ⟨p, q, hA0, hV, rfl, hfz, hnd⟩ := hW
  have hA : DataW.TrodAll enc Try.prog W 0 (fun _ => true) true Try.f5.params.toList args.toList ds p := hA0
  rw [Try.params5] at hA hval
  obtain ⟨v0, vs0, d0, ds0, p0, q0, hargs, rfl, rfl, h0, r0⟩ := trodAll_cons hA
  obtain ⟨v1, vs1, d1, ds1, p1, q1, rfl, rfl, rfl, h1, r1⟩ := trodAll_cons r0
  obtain ⟨v2, vs2, d2, ds2, p2, q2, rfl, rfl, rfl, h2, r2⟩ := trodAll_cons r1
  obtain ⟨v3, vs3, d3, ds3, p3, q3, rfl, rfl, rfl, h3, r3⟩ := trodAll_cons r2
  obtain ⟨v4, vs4, d4, ds4, p4, q4, rfl, rfl, rfl, h4, r4⟩ := trodAll_cons r3
  obtain ⟨rfl, rfl, rfl⟩ := trodAll_nil r4
  obtain rfl : args = #[v0, v1, v2, v3, v4] := by cases args; simp_all
  obtain ⟨rfl, rfl⟩ := trodVars_none hV
  have k0 := h0
  have lt0 : ∀ x ∈ p0, x.block < W.heap.size := by obtain ⟨m, hm⟩ := k0; exact DataW.trod_lt m _ _ _ hm
  obtain ⟨n, env, f, g, h, mn, rn, la, ln, lc, V, rfl, w0, z0⟩ := cfg_open (hval 0 65 v0 rfl rfl) h0
  obtain ⟨a1, rfl, rfl, rfl⟩ := open_bool Try.underlying4 (hval 1 4 v1 rfl rfl) h1
  obtain ⟨a2, rfl, rfl, rfl⟩ := open_bool Try.underlying4 (hval 2 4 v2 rfl rfl) h2
  obtain ⟨a3, rfl, rfl, rfl⟩ := open_bool Try.underlying4 (hval 3 4 v3 rfl rfl) h3
  obtain ⟨a4, rfl, rfl, rfl⟩ := open_bool Try.underlying4 (hval 4 4 v4 rfl rfl) h4
  clear hA0 hval0
  refine (walk n env f g h mn rn la ln lc V a1 a2 a3 a4 W w0 z0).mono fun e W' ⟨he, bel⟩ => ?_
  subst he
  exact ⟨_, rfl, _, _, _, [], _, [], hW', trodAll_mk1 (shut_bool Try.underlying4 _), (trodAll_cons_mk (Below.trod laidOut (by kernel_rfl) (of_decide_eq_true (by kernel_rfl)) k0 bel lt0) (trodAll_cons_mk (shut_bool Try.underlying4 _) (trodAll_cons_mk (shut_bool Try.underlying4 _) (trodAll_cons_mk (shut_bool Try.underlying4 _) (trodAll_cons_mk (shut_bool Try.underlying4 _) trodAll_mk0))))), rfl, bel.frame _, fun h => by cases h⟩

theorem over : Rows.fnEqualRegexpFieldsAgreeWithIsSameRegexpRow.holds Try.pinned (OpenSpec.ofChange Rows.fnEqualRegexpFieldsAgreeWithIsSameRegexpSpec) :=
  OpenClaim.holds_of_wide 5 Try.f5 rfl rfl rfl rfl rfl rfl rfl ⟨rfl, rfl, rfl, rfl, rfl⟩ rfl rfl rfl rfl rfl (by kernel_rfl) Try.func5 (by kernel_rfl)
    (of_decide_eq_true (by kernel_rfl)) (by unfold Func.isWrapper; first | (rw [if_pos (by decide +kernel)]; kernel_rfl) | (rw [if_neg (by decide +kernel)]; exact ⟨rfl, rfl⟩))
    (fun os started H enc _ => lifted os started H enc)

/-- THE STATEMENT -/
theorem proved : Rows.FnEqualRegexpFieldsAgreeWithIsSameRegexpSaid := over
#print axioms proved
end Go.Proofs.Ytbebfpmnekbldaa.fnEqualRegexpFieldsAgreeWithIsSameRegexp
