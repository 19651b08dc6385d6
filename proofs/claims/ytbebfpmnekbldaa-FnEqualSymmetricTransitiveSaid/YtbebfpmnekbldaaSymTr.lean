/-
  The statement FnEqualSymmetricTransitive: Equal over config-built options is symmetric and transitive. No condition.
-/
import Derived.Test.YtbebfpmnekbldaaRows
import Derived.WalkKit
import Derived.ProofKit
import Derived.OpenShut
import Derived.ShutString
import Derived.ChangeOld
import Derived.Below
import Derived.Test.YtbebfpmnekbldaaOw
namespace Go.Proofs.Ytbebfpmnekbldaa.fnEqualSymmetricTransitive
open Go.ChangeShapes Go.WideShapes Go.ChangeAt Go.RowKit
open Go.ChangeMaps (open_string shut_string)
set_option linter.unusedVariables false

theorem own : ownKnob Try.prog.godebug = none := by kernel_rfl
theorem laidOut : laidOutB Try.prog = true := by kernel_rfl

open Go.Proofs.Ytbebfpmnekbldaa.op
theorem walk (n0 : Int) (env0 : ByteArray) (f0 g0 hh0 : Int) (mn0 rn0 : Bool) (la0 : Option Addr) (ln0 lc0 : Nat) (V0 : Nat → ByteArray) (n1 : Int) (env1 : ByteArray) (f1 g1 hh1 : Int) (mn1 rn1 : Bool) (la1 : Option Addr) (ln1 lc1 : Nat) (V1 : Nat → ByteArray) (n2 : Int) (env2 : ByteArray) (f2 g2 hh2 : Int) (mn2 rn2 : Bool) (la2 : Option Addr) (ln2 lc2 : Nat) (V2 : Nat → ByteArray) (w : World) (w0 : (Lit.int .u16 n0).wf = true) (z0 : IsStrs w la0 ln0 lc0 V0) (w1 : (Lit.int .u16 n1).wf = true) (z1 : IsStrs w la1 ln1 lc1 V1) (w2 : (Lit.int .u16 n2).wf = true) (z2 : IsStrs w la2 ln2 lc2 V2) :
    Calls Try.prog 6 #[.agg #[.int .u16 n0, .string env0, .int .u64 f0, .int .u64 g0, .int .u64 hh0, .bool mn0, .bool rn0, .slice la0 ln0 lc0], .agg #[.int .u16 n1, .string env1, .int .u64 f1, .int .u64 g1, .int .u64 hh1, .bool mn1, .bool rn1, .slice la1 ln1 lc1], .agg #[.int .u16 n2, .string env2, .int .u64 f2, .int .u64 g2, .int .u64 hh2, .bool mn2, .bool rn2, .slice la2 ln2 lc2]] w fun e w' => e = .returned (.bool true) ∧ Below w.heap.size w w' := by
  exact op.walk31 w ⟨n0, env0, f0, g0, hh0, mn0, rn0, la0, ln0, lc0, V0⟩ ⟨n1, env1, f1, g1, hh1, mn1, rn1, la1, ln1, lc1, V1⟩ ⟨n2, env2, f2, g2, hh2, mn2, rn2, la2, ln2, lc2, V2⟩ ⟨(show 0 ≤ n0 ∧ n0 < 65536 from by have h0 := w0; simp [Lit.wf] at h0; have e1 : IntKind.u16.min = 0 := (by decide); have e2 : IntKind.u16.max = 65535 := (by decide); rw [e1, e2] at h0; omega), z0⟩ ⟨(show 0 ≤ n1 ∧ n1 < 65536 from by have h0 := w1; simp [Lit.wf] at h0; have e1 : IntKind.u16.min = 0 := (by decide); have e2 : IntKind.u16.max = 65535 := (by decide); rw [e1, e2] at h0; omega), z1⟩ ⟨(show 0 ≤ n2 ∧ n2 < 65536 from by have h0 := w2; simp [Lit.wf] at h0; have e1 : IntKind.u16.min = 0 := (by decide); have e2 : IntKind.u16.max = 65535 := (by decide); rw [e1, e2] at h0; omega), z2⟩

set_option maxRecDepth 100000 in
theorem lifted (os : Os) (started : os.Started) (H : Type) (enc : TypeId × Value → H) :
    ReturnsInHanded {} Try.checked os 6 .any (Rows.fnEqualSymmetricTransitiveSpec.pre6 enc Try.prog Try.f6 Rows.fnEqualSymmetricTransitiveRow.domain false) (Rows.fnEqualSymmetricTransitiveSpec.post enc Try.prog Try.f6 false true false false) := by
  refine returnsInHanded_of_change (C := Try.checked) own started (by kernel_rfl) Try.func6
    (ChangeSpec.witness6 (enc := enc) (C := Try.checked) false ⟨#[], #[.agg #[.int .u16 0, .string ByteArray.empty, .int .u64 0, .int .u64 0, .int .u64 0, .bool false, .bool false, .slice none 0 0], .agg #[.int .u16 0, .string ByteArray.empty, .int .u64 0, .int .u64 0, .int .u64 0, .bool false, .bool false, .slice none 0 0], .agg #[.int .u16 0, .string ByteArray.empty, .int .u64 0, .int .u64 0, .int .u64 0, .bool false, .bool false, .slice none 0 0]], []⟩ 8 (by kernel_rfl) (by kernel_rfl) (by kernel_rfl) (by kernel_rfl)) ?_
  intro W base args ds gs before hval0 hW hcnd _
  have hval : ∀ (j : Nat) t v, Try.f6.params[j]? = some t → args[j]? = some v → Value.okWide Try.prog W .any base t v := hval0
  have hW' := hW
  obtain ⟨p, q, hA0, hV, rfl, hfz, hnd⟩ := hW
  have hA : DataW.TrodAll enc Try.prog W 0 (fun _ => true) true Try.f6.params.toList args.toList ds p := hA0
  rw [Try.params6] at hA hval
  obtain ⟨v0, vs0, d0, ds0, p0, q0, hargs, rfl, rfl, h0, r0⟩ := trodAll_cons hA
  obtain ⟨v1, vs1, d1, ds1, p1, q1, rfl, rfl, rfl, h1, r1⟩ := trodAll_cons r0
  obtain ⟨v2, vs2, d2, ds2, p2, q2, rfl, rfl, rfl, h2, r2⟩ := trodAll_cons r1
  obtain ⟨rfl, rfl, rfl⟩ := trodAll_nil r2
  obtain rfl : args = #[v0, v1, v2] := by cases args; simp_all
  obtain ⟨rfl, rfl⟩ := trodVars_none hV
  have k0 := h0
  have lt0 : ∀ x ∈ p0, x.block < W.heap.size := by obtain ⟨m, hm⟩ := k0; exact DataW.trod_lt m _ _ _ hm
  obtain ⟨n0, env0, f0, g0, hh0, mn0, rn0, la0, ln0, lc0, V0, rfl, w0, z0⟩ := cfg_open (hval 0 65 v0 rfl rfl) h0
  have k1 := h1
  have lt1 : ∀ x ∈ p1, x.block < W.heap.size := by obtain ⟨m, hm⟩ := k1; exact DataW.trod_lt m _ _ _ hm
  obtain ⟨n1, env1, f1, g1, hh1, mn1, rn1, la1, ln1, lc1, V1, rfl, w1, z1⟩ := cfg_open (hval 1 65 v1 rfl rfl) h1
  have k2 := h2
  have lt2 : ∀ x ∈ p2, x.block < W.heap.size := by obtain ⟨m, hm⟩ := k2; exact DataW.trod_lt m _ _ _ hm
  obtain ⟨n2, env2, f2, g2, hh2, mn2, rn2, la2, ln2, lc2, V2, rfl, w2, z2⟩ := cfg_open (hval 2 65 v2 rfl rfl) h2
  clear hA0 hval0
  refine (walk n0 env0 f0 g0 hh0 mn0 rn0 la0 ln0 lc0 V0 n1 env1 f1 g1 hh1 mn1 rn1 la1 ln1 lc1 V1 n2 env2 f2 g2 hh2 mn2 rn2 la2 ln2 lc2 V2 W w0 z0 w1 z1 w2 z2).mono fun e W' ⟨he, bel⟩ => ?_
  subst he
  exact ⟨_, rfl, _, _, _, [], _, [], hW', trodAll_mk1 (shut_bool Try.underlying4 _), (trodAll_cons_mk (Below.trod laidOut (by kernel_rfl) (of_decide_eq_true (by kernel_rfl)) k0 bel lt0) (trodAll_cons_mk (Below.trod laidOut (by kernel_rfl) (of_decide_eq_true (by kernel_rfl)) k1 bel lt1) (trodAll_cons_mk (Below.trod laidOut (by kernel_rfl) (of_decide_eq_true (by kernel_rfl)) k2 bel lt2) trodAll_mk0))), rfl, bel.frame _, fun h => by cases h⟩

theorem over : Rows.fnEqualSymmetricTransitiveRow.holds Try.pinned (OpenSpec.ofChange Rows.fnEqualSymmetricTransitiveSpec) :=
  OpenClaim.holds_of_wide 6 Try.f6 rfl rfl rfl rfl rfl rfl rfl ⟨rfl, rfl, rfl, rfl, rfl⟩ rfl rfl rfl rfl rfl (by kernel_rfl) Try.func6 (by kernel_rfl)
    (of_decide_eq_true (by kernel_rfl)) (by unfold Func.isWrapper; first | (rw [if_pos (by decide +kernel)]; kernel_rfl) | (rw [if_neg (by decide +kernel)]; exact ⟨rfl, rfl⟩))
    (fun os started H enc _ => lifted os started H enc)

/-- THE STATEMENT -/
theorem proved : Rows.FnEqualSymmetricTransitiveSaid := over
#print axioms proved
end Go.Proofs.Ytbebfpmnekbldaa.fnEqualSymmetricTransitive
