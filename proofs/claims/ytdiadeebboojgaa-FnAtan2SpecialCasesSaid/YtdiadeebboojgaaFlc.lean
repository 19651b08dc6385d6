/-
  Contracts of the float helpers of the statements' own text (NaN, sign, same float).
-/
import Derived.Test.YtdiadeebboojgaaRows
import Derived.Test.YtdiadeebboojgaaFl
import Derived.WalkKit
import Derived.ProofKit
import Derived.OpenShut
import Derived.ShutString
import Derived.Lib.Hide
import Derived.WalkLawsBesides
namespace Go.Proofs.Ytdiadeebboojgaa.fl
open Go.ChangeShapes Go.WideShapes Go.ChangeAt Go.RowKit
set_option linter.unusedVariables false

theorem fbits (x : Nat) (w : World) : (callFunc 21 #[.float .f64 x]).run Try.prog w = .ok (.value (.int .u64 x)) w := by
  rw [run_callFunc_extern Try.func21 (by kernel_rfl) (by kernel_rfl) (by kernel_rfl) (e := Extern.MathFloatBits.float64bits) (by kernel_rfl)]
  rfl
theorem ffrom (n : Int) (w : World) : (callFunc 20 #[.int .u64 n]).run Try.prog w = .ok (.value (.float .f64 n.toNat)) w := by
  rw [run_callFunc_extern Try.func20 (by kernel_rfl) (by kernel_rfl) (by kernel_rfl) (e := Extern.MathFloatBits.float64frombits) (by kernel_rfl)]
  rfl

@[go_sem] theorem run_store_float {P : Program} {w : World} {a : Addr} {m : Mode} (k : FloatKind) (n : Nat) : (store a (.float k n) m).run P w = stored P w a (.float k n) m := run_store P w a _ m rfl
@[go_sem] theorem run_neg_float {P : Program} {w : World} (k : FloatKind) (n : Nat) : (Op.unary .neg (.float k n)).run P w = .ok (.float k (Op.negFloat k n)) w := rfl

/-- Is it a NaN? -/
def nanb (x : Nat) : Bool := FloatKind.f64.format.order x x != some .eq

theorem isnan (x : Nat) (w : World) :
    Calls Try.prog 12 #[.float .f64 x] w fun e w' => e = .returned (.bool (nanb x)) ∧ w = w' := by
  go_enter Try.func12, Try.ntmps12
  go_wp2
  go_ret
  exact ⟨rfl, rfl⟩

/-- The sign that b9SignBit tells. -/
def sb (x : Nat) : Bool := if FloatKind.f64.format.order x 0 == some .lt then true else if FloatKind.f64.format.order x 0 == some .eq then x == 9223372036854775808 else false

theorem signbit (x : Nat) (hx : x < 18446744073709551616) (w : World) :
    Calls Try.prog 13 #[.float .f64 x] w fun e w' => e = .returned (.bool (sb x)) ∧ w = w' := by
  by_cases h1 : (FloatKind.f64.format.order x 0 == some .lt) = true
  · have e : sb x = true := by unfold sb; rw [if_pos h1]
    rw [e]
    clear e
    go_enter Try.func13, Try.ntmps13
    go_wp2
    go_ret
    exact ⟨rfl, rfl⟩
  · by_cases h2 : (FloatKind.f64.format.order x 0 == some .eq) = true
    · rcases zero_of x hx (by simpa using h2) with rfl | rfl
      · have e : sb 0 = false := by decide +kernel
        rw [e]
        have d := fun w => run_float_arith (P := Try.prog) w .quo 22 .f64 _ _ _ div_zero
        have i := inf_pos
        have h1' : (FloatKind.f64.format.order 0 0 == some .lt) = false := by simpa using h1
        clear h1 e
        go_enter Try.func13, Try.ntmps13
        go_wp2
        go_ret
        exact ⟨rfl, rfl⟩
      · have e : sb 9223372036854775808 = true := by decide +kernel
        rw [e]
        have d := fun w => run_float_arith (P := Try.prog) w .quo 22 .f64 _ _ _ div_nzero
        have i := inf_neg
        have h1' : (FloatKind.f64.format.order 9223372036854775808 0 == some .lt) = false := by simpa using h1
        clear h1 e
        go_enter Try.func13, Try.ntmps13
        go_wp2
        go_ret
        exact ⟨rfl, rfl⟩
    · have e : sb x = false := by unfold sb; rw [if_neg h1, if_neg h2]
      rw [e]
      have h1' : (FloatKind.f64.format.order x 0 == some .lt) = false := by simpa using h1
      have h2' : (FloatKind.f64.format.order x 0 == some .eq) = false := by simpa using h2
      clear h1 h2 e
      go_enter Try.func13, Try.ntmps13
      go_wp2
      go_ret
      exact ⟨rfl, rfl⟩

def Same (x y : Nat) : Prop := x = y ∨ (nanb x = true ∧ nanb y = true)

theorem same (x y : Nat) (hx : x < 18446744073709551616) (h : Same x y) (w : World) :
    Calls Try.prog 7 #[.float .f64 x, .float .f64 y] w fun e w' => e = .returned (.bool true) ∧ w = w' := by
  by_cases hn : nanb x = true
  · have hy : nanb y = true := by rcases h with rfl | h; exact hn; exact h.2
    have HX := Lib.hid (show ∀ w, Calls Try.prog 12 #[.float .f64 x] w fun e w' => e = .returned (.bool true) ∧ w = w' by intro w; rw [← hn]; exact isnan x w)
    have HY := Lib.hid (show ∀ w, Calls Try.prog 12 #[.float .f64 y] w fun e w' => e = .returned (.bool true) ∧ w = w' by intro w; rw [← hy]; exact isnan y w)
    clear h hn hy
    go_enter Try.func7, Try.ntmps7
    go_wp2_with (first | (go_at_call 12; with_reducible refine (HX.out _).mono ?_; rintro e w' ⟨rfl, rfl⟩) | (go_at_call 12; with_reducible refine (HY.out _).mono ?_; rintro e w' ⟨rfl, rfl⟩))
    go_ret
    exact ⟨rfl, rfl⟩
  · have hn' : nanb x = false := by simpa using hn
    obtain rfl : x = y := by rcases h with rfl | h; rfl; exact absurd h.1 hn
    have HX := Lib.hid (show ∀ w, Calls Try.prog 12 #[.float .f64 x] w fun e w' => e = .returned (.bool false) ∧ w = w' by intro w; rw [← hn']; exact isnan x w)
    have HS := Lib.hid (signbit x hx)
    have hxx : (FloatKind.f64.format.order x x == some .eq) = true := by
      unfold nanb at hn'; simpa using hn'
    by_cases h2 : (FloatKind.f64.format.order x 0 == some .eq) = true
    · clear h hn hn'
      go_enter Try.func7, Try.ntmps7
      go_wp2_with (first | (go_at_call 12; with_reducible refine (HX.out _).mono ?_; rintro e w' ⟨rfl, rfl⟩) | (go_at_call 13; with_reducible refine (HS.out _).mono ?_; rintro e w' ⟨rfl, rfl⟩))
      go_ret
      refine ⟨?_, rfl⟩
      simp
    · have h2' : (FloatKind.f64.format.order x 0 == some .eq) = false := by simpa using h2
      clear h hn hn' h2
      go_enter Try.func7, Try.ntmps7
      go_wp2_with (first | (go_at_call 12; with_reducible refine (HX.out _).mono ?_; rintro e w' ⟨rfl, rfl⟩) | (go_at_call 13; with_reducible refine (HS.out _).mono ?_; rintro e w' ⟨rfl, rfl⟩))
      go_ret
      exact ⟨rfl, rfl⟩

end Go.Proofs.Ytdiadeebboojgaa.fl
