/-
  Contracts of the F64 methods that the sign statement calls.
-/
import Derived.Test.YtdiadeebboojgaaFlc
import Derived.Deep.RegionHeld3
import Derived.Deep.DeepCutAuto
namespace Go.Proofs.Ytdiadeebboojgaa.fl
open Go.ChangeShapes Go.WideShapes Go.ChangeAt Go.RowKit
set_option linter.unusedVariables false

/-- What is held of the world while the law runs: two boxes, x at block b and (once made) y at block c. -/
def KS (w0 : World) (b : Nat) (x : Nat) (w : World) : Prop := b < w.heap.size ∧ w.cell? ⟨b, 0, none⟩ = some (.float .f64 x) ∧ Below w0.heap.size w0 w
theorem KS.below {w0 w w' : World} {b x : Nat} (h : KS w0 b x w) (hb : Below w.heap.size w w') : KS w0 b x w' := by
  have hs := hb.size
  exact ⟨by have := h.1; omega, (hb.cell (p := ⟨b, 0, none⟩) h.1).trans h.2.1, h.2.2.trans (hb.mono h.2.2.size)⟩

theorem KS.cell {w0 w : World} {b x : Nat} (h : KS w0 b x w) : w.cell? ⟨b, 0, none⟩ = some (.float .f64 x) := h.2.1
theorem KS.alloc {w0 w : World} {b x : Nat} (h : KS w0 b x w) (o : Obj) : KS w0 b x (w.alloc o) := h.below ((Below.refl _ _).alloc (Nat.le_refl _) _)
theorem KS.drew {w0 w : World} {b x : Nat} (h : KS w0 b x w) : KS w0 b x w.drew := h.below (Below.refl _ _).drew
theorem KS.drewN {w0 w : World} {b x n : Nat} (h : KS w0 b x w) : KS w0 b x (w.drewN n) := h.below (below_drewN (Below.refl _ _) n)

def F64at (n : Nat) (w : World) (e : Ending) (w' : World) : Prop := e = .returned (.agg #[.float .f64 n]) ∧ Below w.heap.size w w'

theorem new (x : Nat) (w : World) : Calls Try.prog 5 #[.float .f64 x] w (F64at x w) := by
  go_enter Try.func5, Try.ntmps5
  go_wp2
  refine bodyPost_ret (v := .agg #[.float .f64 x]) (by simp [results, Try.results5, go_sem]) rfl ⟨rfl, ?_⟩
  exact (Below.refl _ _).alloc (Nat.le_refl _) _

theorem value (x : Nat) (w : World) : Calls Try.prog 8 #[.agg #[.float .f64 x]] w fun e w' => e = .returned (.float .f64 x) ∧ Below w.heap.size w w' := by
  go_enter Try.func8, Try.ntmps8
  go_wp2
  go_ret
  exact ⟨rfl, (Below.refl _ _).alloc (Nat.le_refl _) _⟩

theorem copysign (x y : Nat) (hx : x < 18446744073709551616) (hy : y < 18446744073709551616) (w : World) :
    Calls Try.prog 6 #[.agg #[.float .f64 x], .agg #[.float .f64 y]] w (F64at (cs x y) w) := by
  have h1 := fbits
  have h2 := ffrom
  have h3 := copy_bits x y hx hy
  go_enter Try.func6, Try.ntmps6
  go_wp2_with (first | (go_at_call 17; go_in) | (go_at_call 5; go_in) | (refine bodyPost_ret (by simp [results, Try.results5, go_sem]; rfl) rfl ?_; simp only []; go_at_K))
  refine bodyPost_ret (v := .agg #[.float .f64 (cs x y)]) (by simp [results, Try.results6, go_sem]) rfl ⟨rfl, ?_⟩
  exact ((((Below.refl _ _).alloc (Nat.le_refl _) _).alloc (by simp) _).alloc (by simp; omega) _).alloc (by simp; omega) _

theorem abs (x : Nat) (hx : x < 18446744073709551616) (w : World) : Calls Try.prog 9 #[.agg #[.float .f64 x]] w (F64at (cs x 0) w) := by
  have h1 := fbits
  have h2 := ffrom
  have h3 := abs_bits x hx
  go_enter Try.func9, Try.ntmps9
  go_wp2_with (first | (go_at_call 18; go_in) | (go_at_call 5; go_in) | (refine bodyPost_ret (by simp [results, Try.results5, go_sem]; rfl) rfl ?_; simp only []; go_at_K))
  refine bodyPost_ret (v := .agg #[.float .f64 (cs x 0)]) (by simp [results, Try.results9, go_sem]) rfl ⟨rfl, ?_⟩
  exact (((Below.refl _ _).alloc (Nat.le_refl _) _).alloc (by simp) _).alloc (by simp; omega) _

theorem neg (x : Nat) (w : World) : Calls Try.prog 10 #[.agg #[.float .f64 x]] w (F64at (Op.negFloat .f64 x) w) := by
  go_enter Try.func10, Try.ntmps10
  go_wp2_with (first | (go_at_call 5; go_in) | (refine bodyPost_ret (by simp [results, Try.results5, go_sem]; rfl) rfl ?_; simp only []; go_at_K))
  refine bodyPost_ret (v := .agg #[.float .f64 (Op.negFloat .f64 x)]) (by simp [results, Try.results10, go_sem]) rfl ⟨rfl, ?_⟩
  exact (((Below.refl _ _).alloc (Nat.le_refl _) _).alloc (by simp) _).alloc (by simp; omega) _

theorem newE (x : Nat) (w : World) : Calls Try.prog 5 #[.float .f64 x] w fun e w' => e = .returned (.agg #[.float .f64 x]) ∧ w.alloc (.cells #[.float .f64 x] 24) = w' := by
  go_enter Try.func5, Try.ntmps5
  go_wp2
  exact bodyPost_ret (v := .agg #[.float .f64 x]) (by simp [results, Try.results5, go_sem]) rfl ⟨rfl, rfl⟩

theorem copysignE (x y : Nat) (hx : x < 18446744073709551616) (hy : y < 18446744073709551616) (w : World) :
    Calls Try.prog 6 #[.agg #[.float .f64 x], .agg #[.float .f64 y]] w fun e w' => e = .returned (.agg #[.float .f64 (cs x y)]) ∧
      (((w.alloc (.cells #[.float .f64 x] 24)).alloc (.cells #[.float .f64 y] 24)).alloc (.cells #[.float .f64 (cs x y)] 24)).alloc (.cells #[.float .f64 (cs x y)] 24) = w' := by
  have h1 := fbits
  have h2 := ffrom
  have h3 := copy_bits x y hx hy
  go_enter Try.func6, Try.ntmps6
  go_wp2_with (first | (go_at_call 17; go_in) | (go_at_call 5; go_in) | (refine bodyPost_ret (by simp [results, Try.results5, go_sem]; rfl) rfl ?_; simp only []; go_at_K))
  exact bodyPost_ret (v := .agg #[.float .f64 (cs x y)]) (by simp [results, Try.results6, go_sem]) rfl ⟨rfl, rfl⟩
end Go.Proofs.Ytdiadeebboojgaa.fl
