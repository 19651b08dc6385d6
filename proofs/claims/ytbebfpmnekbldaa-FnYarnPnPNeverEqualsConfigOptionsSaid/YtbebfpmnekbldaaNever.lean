/-
  The statement FnYarnPnPNeverEqualsConfigOptions: the Yarn PnP options equal themselves and differ, both ways, from the options built from any config. No condition.
-/
import Derived.Test.YtbebfpmnekbldaaRows
import Derived.WalkKit
import Derived.ProofKit
import Derived.OpenShut
import Derived.ShutString
import Derived.ChangeOld
import Derived.Below
import Derived.Test.YtbebfpmnekbldaaOr
namespace Go.Proofs.Ytbebfpmnekbldaa.fnYarnPnPNeverEqualsConfigOptions
open Go.ChangeShapes Go.WideShapes Go.ChangeAt Go.RowKit
open Go.ChangeMaps (open_string shut_string)
set_option linter.unusedVariables false

theorem own : ownKnob Try.prog.godebug = none := by kernel_rfl
theorem laidOut : laidOutB Try.prog = true := by kernel_rfl

open Go.Proofs.Ytbebfpmnekbldaa.op
theorem walk (n : Int) (env : ByteArray) (f g h : Int) (mn rn : Bool) (la : Option Addr) (ln lc : Nat) (V : Nat → ByteArray) (w : World) (w0 : (Lit.int .u16 n).wf = true) (z0 : IsStrs w la ln lc V) :
    Calls Try.prog 4 #[.agg #[.int .u16 n, .string env, .int .u64 f, .int .u64 g, .int .u64 h, .bool mn, .bool rn, .slice la ln lc]] w fun e w' => e = .returned (.bool true) ∧ Below w.heap.size w w' := by
  exact op.walk12 w n env f g h mn rn la ln lc V w0 z0

set_option maxRecDepth 100000 in
theorem lifted (os : Os) (started : os.Started) (H : Type) (enc : TypeId × Value → H) :
    ReturnsInHanded {} Try.checked os 4 .any (Rows.fnYarnPnPNeverEqualsConfigOptionsSpec.pre6 enc Try.prog Try.f4 Rows.fnYarnPnPNeverEqualsConfigOptionsRow.domain false) (Rows.fnYarnPnPNeverEqualsConfigOptionsSpec.post enc Try.prog Try.f4 false true false false) := by
  refine returnsInHanded_of_change (C := Try.checked) own started (by kernel_rfl) Try.func4
    (ChangeSpec.witness6 (enc := enc) (C := Try.checked) false ⟨#[], #[.agg #[.int .u16 0, .string ByteArray.empty, .int .u64 0, .int .u64 0, .int .u64 0, .bool false, .bool false, .slice none 0 0]], []⟩ 8 (by kernel_rfl) (by kernel_rfl) (by kernel_rfl) (by kernel_rfl)) ?_
  intro W base args ds gs before hval0 hW hcnd _
  have hval : ∀ (j : Nat) t v, Try.f4.params[j]? = some t → args[j]? = some v → Value.okWide Try.prog W .any base t v := hval0
  have hW' := hW
  obtain ⟨p, q, hA0, hV, rfl, hfz, hnd⟩ := hW
  have hA : DataW.TrodAll enc Try.prog W 0 (fun _ => true) true Try.f4.params.toList args.toList ds p := hA0
  rw [Try.params4] at hA hval
  obtain ⟨v0, vs0, d0, ds0, p0, q0, hargs, rfl, rfl, h0, r0⟩ := trodAll_cons hA
  obtain ⟨rfl, rfl, rfl⟩ := trodAll_nil r0
  obtain rfl : args = #[v0] := by cases args; simp_all
  obtain ⟨rfl, rfl⟩ := trodVars_none hV
  have k0 := h0
  have lt0 : ∀ x ∈ p0, x.block < W.heap.size := by obtain ⟨m, hm⟩ := k0; exact DataW.trod_lt m _ _ _ hm
  obtain ⟨n, env, f, g, h, mn, rn, la, ln, lc, V, rfl, w0, z0⟩ := cfg_open (hval 0 65 v0 rfl rfl) h0
  clear hA0 hval0
  refine (walk n env f g h mn rn la ln lc V W w0 z0).mono fun e W' ⟨he, bel⟩ => ?_
  subst he
  exact ⟨_, rfl, _, _, _, [], _, [], hW', trodAll_mk1 (shut_bool Try.underlying4 _), (trodAll_cons_mk (Below.trod laidOut (by kernel_rfl) (of_decide_eq_true (by kernel_rfl)) k0 bel lt0) trodAll_mk0), rfl, bel.frame _, fun h => by cases h⟩

theorem over : Rows.fnYarnPnPNeverEqualsConfigOptionsRow.holds Try.pinned (OpenSpec.ofChange Rows.fnYarnPnPNeverEqualsConfigOptionsSpec) :=
  OpenClaim.holds_of_wide 4 Try.f4 rfl rfl rfl rfl rfl rfl rfl ⟨rfl, rfl, rfl, rfl, rfl⟩ rfl rfl rfl rfl rfl (by kernel_rfl) Try.func4 (by kernel_rfl)
    (of_decide_eq_true (by kernel_rfl)) (by unfold Func.isWrapper; first | (rw [if_pos (by decide +kernel)]; kernel_rfl) | (rw [if_neg (by decide +kernel)]; exact ⟨rfl, rfl⟩))
    (fun os started H enc _ => lifted os started H enc)

/-- THE STATEMENT -/
theorem proved : Rows.FnYarnPnPNeverEqualsConfigOptionsSaid := over
#print axioms proved
end Go.Proofs.Ytbebfpmnekbldaa.fnYarnPnPNeverEqualsConfigOptions
