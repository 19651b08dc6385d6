/-
  Go's Atan2, walked case by case; F64's Atan2.
-/
import Derived.Test.YtdiadeebboojgaaAx
namespace Go.Proofs.Ytdiadeebboojgaa.at
open Go.ChangeShapes Go.WideShapes Go.ChangeAt Go.RowKit Go.Proofs.Ytdiadeebboojgaa.fl
set_option linter.unusedVariables false
set_option linter.unusedSimpArgs false
set_option maxRecDepth 100000
set_option maxHeartbeats 4000000
/-- Function k gives v and leaves the world as it was. -/
abbrev Gives (k : Nat) (args : Array Value) (v : Value) : Prop := ∀ w : World, Calls Try.prog k args w fun e w' => e = .returned v ∧ w = w'
abbrev od (x y : Nat) : Option Ordering := FloatKind.f64.format.order x y
theorem t_nan1 (y x g : Nat) (Ny : Gives 24 #[fl1 y] (.bool true)) (Nn : Gives 25 #[] (fl1 g)) : Gives 23 #[fl1 y, fl1 x] (fl1 g) := by
  intro w
  replace Ny := Lib.hid Ny
  replace Nn := Lib.hid Nn
  go_enter Try.func23, Try.ntmps23
  go_wp2_with (first | (go_at_call 24; with_reducible refine (Ny.out _).mono ?_; rintro _ _ ⟨rfl, rfl⟩) | (go_at_call 25; with_reducible refine (Nn.out _).mono ?_; rintro _ _ ⟨rfl, rfl⟩))
  go_ret
  exact ⟨rfl, rfl⟩
theorem t_nan2 (y x g : Nat) (Ny : Gives 24 #[fl1 y] (.bool false)) (Nx : Gives 24 #[fl1 x] (.bool true)) (Nn : Gives 25 #[] (fl1 g)) : Gives 23 #[fl1 y, fl1 x] (fl1 g) := by
  intro w
  replace Ny := Lib.hid Ny
  replace Nx := Lib.hid Nx
  replace Nn := Lib.hid Nn
  go_enter Try.func23, Try.ntmps23
  go_wp2_with (first | (go_at_call 24; with_reducible refine (Ny.out _).mono ?_; rintro _ _ ⟨rfl, rfl⟩) | (go_at_call 24; with_reducible refine (Nx.out _).mono ?_; rintro _ _ ⟨rfl, rfl⟩) | (go_at_call 25; with_reducible refine (Nn.out _).mono ?_; rintro _ _ ⟨rfl, rfl⟩))
  go_ret
  exact ⟨rfl, rfl⟩
theorem t_y0neg (y x g : Nat) (Ny : Gives 24 #[fl1 y] (.bool false)) (Nx : Gives 24 #[fl1 x] (.bool false)) (oy : (FloatKind.f64.format.order y 0 == some .eq) = true) (xg : (FloatKind.f64.format.order x 0 == some .gt || FloatKind.f64.format.order x 0 == some .eq) = false) (C : Gives 17 #[fl1 4614256656552045848, fl1 y] (fl1 g)) : Gives 23 #[fl1 y, fl1 x] (fl1 g) := by
  intro w
  replace Ny := Lib.hid Ny
  replace Nx := Lib.hid Nx
  replace C := Lib.hid C
  go_enter Try.func23, Try.ntmps23
  go_wp2_with (first | (go_at_call 24; with_reducible refine (Ny.out _).mono ?_; rintro _ _ ⟨rfl, rfl⟩) | (go_at_call 24; with_reducible refine (Nx.out _).mono ?_; rintro _ _ ⟨rfl, rfl⟩) | (go_at_call 17; with_reducible refine (C.out _).mono ?_; rintro _ _ ⟨rfl, rfl⟩))
  go_ret
  exact ⟨rfl, rfl⟩
theorem t_y0pos (y x g : Nat) (Ny : Gives 24 #[fl1 y] (.bool false)) (Nx : Gives 24 #[fl1 x] (.bool false)) (oy : (FloatKind.f64.format.order y 0 == some .eq) = true) (xg : (FloatKind.f64.format.order x 0 == some .gt || FloatKind.f64.format.order x 0 == some .eq) = true) (Sx : Gives 26 #[fl1 x] (.bool false)) (C : Gives 17 #[fl1 0, fl1 y] (fl1 g)) : Gives 23 #[fl1 y, fl1 x] (fl1 g) := by
  intro w
  replace Ny := Lib.hid Ny
  replace Nx := Lib.hid Nx
  replace Sx := Lib.hid Sx
  replace C := Lib.hid C
  go_enter Try.func23, Try.ntmps23
  go_wp2_with (first | (go_at_call 24; with_reducible refine (Ny.out _).mono ?_; rintro _ _ ⟨rfl, rfl⟩) | (go_at_call 24; with_reducible refine (Nx.out _).mono ?_; rintro _ _ ⟨rfl, rfl⟩) | (go_at_call 17; with_reducible refine (C.out _).mono ?_; rintro _ _ ⟨rfl, rfl⟩) | (go_at_call 26; with_reducible refine (Sx.out _).mono ?_; rintro _ _ ⟨rfl, rfl⟩))
  go_ret
  exact ⟨rfl, rfl⟩
theorem t_y0nz (y x g : Nat) (Ny : Gives 24 #[fl1 y] (.bool false)) (Nx : Gives 24 #[fl1 x] (.bool false)) (oy : (FloatKind.f64.format.order y 0 == some .eq) = true) (xg : (FloatKind.f64.format.order x 0 == some .gt || FloatKind.f64.format.order x 0 == some .eq) = true) (Sx : Gives 26 #[fl1 x] (.bool true)) (C : Gives 17 #[fl1 4614256656552045848, fl1 y] (fl1 g)) : Gives 23 #[fl1 y, fl1 x] (fl1 g) := by
  intro w
  replace Ny := Lib.hid Ny
  replace Nx := Lib.hid Nx
  replace Sx := Lib.hid Sx
  replace C := Lib.hid C
  go_enter Try.func23, Try.ntmps23
  go_wp2_with (first | (go_at_call 24; with_reducible refine (Ny.out _).mono ?_; rintro _ _ ⟨rfl, rfl⟩) | (go_at_call 24; with_reducible refine (Nx.out _).mono ?_; rintro _ _ ⟨rfl, rfl⟩) | (go_at_call 17; with_reducible refine (C.out _).mono ?_; rintro _ _ ⟨rfl, rfl⟩) | (go_at_call 26; with_reducible refine (Sx.out _).mono ?_; rintro _ _ ⟨rfl, rfl⟩))
  go_ret
  exact ⟨rfl, rfl⟩
theorem t_x0 (y x g : Nat) (Ny : Gives 24 #[fl1 y] (.bool false)) (Nx : Gives 24 #[fl1 x] (.bool false)) (oy : (FloatKind.f64.format.order y 0 == some .eq) = false) (ox : (FloatKind.f64.format.order x 0 == some .eq) = true) (C : Gives 17 #[fl1 4609753056924675352, fl1 y] (fl1 g)) : Gives 23 #[fl1 y, fl1 x] (fl1 g) := by
  intro w
  replace Ny := Lib.hid Ny
  replace Nx := Lib.hid Nx
  replace C := Lib.hid C
  go_enter Try.func23, Try.ntmps23
  go_wp2_with (first | (go_at_call 24; with_reducible refine (Ny.out _).mono ?_; rintro _ _ ⟨rfl, rfl⟩) | (go_at_call 24; with_reducible refine (Nx.out _).mono ?_; rintro _ _ ⟨rfl, rfl⟩) | (go_at_call 17; with_reducible refine (C.out _).mono ?_; rintro _ _ ⟨rfl, rfl⟩))
  go_ret
  exact ⟨rfl, rfl⟩
theorem t_ipi (y x g : Nat) (Ny : Gives 24 #[fl1 y] (.bool false)) (Nx : Gives 24 #[fl1 x] (.bool false)) (oy : (FloatKind.f64.format.order y 0 == some .eq) = false) (ox : (FloatKind.f64.format.order x 0 == some .eq) = false) (Ix : Gives 27 #[fl1 x, .int .i64 0] (.bool true)) (Jx : Gives 27 #[fl1 x, .int .i64 1] (.bool true)) (Iy : Gives 27 #[fl1 y, .int .i64 0] (.bool true)) (C : Gives 17 #[fl1 4605249457297304856, fl1 y] (fl1 g)) : Gives 23 #[fl1 y, fl1 x] (fl1 g) := by
  intro w
  replace Ny := Lib.hid Ny
  replace Nx := Lib.hid Nx
  replace Ix := Lib.hid Ix
  replace Jx := Lib.hid Jx
  replace Iy := Lib.hid Iy
  replace C := Lib.hid C
  go_enter Try.func23, Try.ntmps23
  go_wp2_with (first | (go_at_call 24; with_reducible refine (Ny.out _).mono ?_; rintro _ _ ⟨rfl, rfl⟩) | (go_at_call 24; with_reducible refine (Nx.out _).mono ?_; rintro _ _ ⟨rfl, rfl⟩) | (go_at_call 17; with_reducible refine (C.out _).mono ?_; rintro _ _ ⟨rfl, rfl⟩) | (go_at_call 27; with_reducible refine (Ix.out _).mono ?_; rintro _ _ ⟨rfl, rfl⟩) | (go_at_call 27; with_reducible refine (Jx.out _).mono ?_; rintro _ _ ⟨rfl, rfl⟩) | (go_at_call 27; with_reducible refine (Iy.out _).mono ?_; rintro _ _ ⟨rfl, rfl⟩))
  go_ret
  exact ⟨rfl, rfl⟩
theorem t_ipf (y x g : Nat) (Ny : Gives 24 #[fl1 y] (.bool false)) (Nx : Gives 24 #[fl1 x] (.bool false)) (oy : (FloatKind.f64.format.order y 0 == some .eq) = false) (ox : (FloatKind.f64.format.order x 0 == some .eq) = false) (Ix : Gives 27 #[fl1 x, .int .i64 0] (.bool true)) (Jx : Gives 27 #[fl1 x, .int .i64 1] (.bool true)) (Iy : Gives 27 #[fl1 y, .int .i64 0] (.bool false)) (C : Gives 17 #[fl1 0, fl1 y] (fl1 g)) : Gives 23 #[fl1 y, fl1 x] (fl1 g) := by
  intro w
  replace Ny := Lib.hid Ny
  replace Nx := Lib.hid Nx
  replace Ix := Lib.hid Ix
  replace Jx := Lib.hid Jx
  replace Iy := Lib.hid Iy
  replace C := Lib.hid C
  go_enter Try.func23, Try.ntmps23
  go_wp2_with (first | (go_at_call 24; with_reducible refine (Ny.out _).mono ?_; rintro _ _ ⟨rfl, rfl⟩) | (go_at_call 24; with_reducible refine (Nx.out _).mono ?_; rintro _ _ ⟨rfl, rfl⟩) | (go_at_call 17; with_reducible refine (C.out _).mono ?_; rintro _ _ ⟨rfl, rfl⟩) | (go_at_call 27; with_reducible refine (Ix.out _).mono ?_; rintro _ _ ⟨rfl, rfl⟩) | (go_at_call 27; with_reducible refine (Jx.out _).mono ?_; rintro _ _ ⟨rfl, rfl⟩) | (go_at_call 27; with_reducible refine (Iy.out _).mono ?_; rintro _ _ ⟨rfl, rfl⟩))
  go_ret
  exact ⟨rfl, rfl⟩
theorem t_ini (y x g : Nat) (Ny : Gives 24 #[fl1 y] (.bool false)) (Nx : Gives 24 #[fl1 x] (.bool false)) (oy : (FloatKind.f64.format.order y 0 == some .eq) = false) (ox : (FloatKind.f64.format.order x 0 == some .eq) = false) (Ix : Gives 27 #[fl1 x, .int .i64 0] (.bool true)) (Jx : Gives 27 #[fl1 x, .int .i64 1] (.bool false)) (Iy : Gives 27 #[fl1 y, .int .i64 0] (.bool true)) (C : Gives 17 #[fl1 4612488097114038738, fl1 y] (fl1 g)) : Gives 23 #[fl1 y, fl1 x] (fl1 g) := by
  intro w
  replace Ny := Lib.hid Ny
  replace Nx := Lib.hid Nx
  replace Ix := Lib.hid Ix
  replace Jx := Lib.hid Jx
  replace Iy := Lib.hid Iy
  replace C := Lib.hid C
  go_enter Try.func23, Try.ntmps23
  go_wp2_with (first | (go_at_call 24; with_reducible refine (Ny.out _).mono ?_; rintro _ _ ⟨rfl, rfl⟩) | (go_at_call 24; with_reducible refine (Nx.out _).mono ?_; rintro _ _ ⟨rfl, rfl⟩) | (go_at_call 17; with_reducible refine (C.out _).mono ?_; rintro _ _ ⟨rfl, rfl⟩) | (go_at_call 27; with_reducible refine (Ix.out _).mono ?_; rintro _ _ ⟨rfl, rfl⟩) | (go_at_call 27; with_reducible refine (Jx.out _).mono ?_; rintro _ _ ⟨rfl, rfl⟩) | (go_at_call 27; with_reducible refine (Iy.out _).mono ?_; rintro _ _ ⟨rfl, rfl⟩))
  go_ret
  exact ⟨rfl, rfl⟩
theorem t_inf (y x g : Nat) (Ny : Gives 24 #[fl1 y] (.bool false)) (Nx : Gives 24 #[fl1 x] (.bool false)) (oy : (FloatKind.f64.format.order y 0 == some .eq) = false) (ox : (FloatKind.f64.format.order x 0 == some .eq) = false) (Ix : Gives 27 #[fl1 x, .int .i64 0] (.bool true)) (Jx : Gives 27 #[fl1 x, .int .i64 1] (.bool false)) (Iy : Gives 27 #[fl1 y, .int .i64 0] (.bool false)) (C : Gives 17 #[fl1 4614256656552045848, fl1 y] (fl1 g)) : Gives 23 #[fl1 y, fl1 x] (fl1 g) := by
  intro w
  replace Ny := Lib.hid Ny
  replace Nx := Lib.hid Nx
  replace Ix := Lib.hid Ix
  replace Jx := Lib.hid Jx
  replace Iy := Lib.hid Iy
  replace C := Lib.hid C
  go_enter Try.func23, Try.ntmps23
  go_wp2_with (first | (go_at_call 24; with_reducible refine (Ny.out _).mono ?_; rintro _ _ ⟨rfl, rfl⟩) | (go_at_call 24; with_reducible refine (Nx.out _).mono ?_; rintro _ _ ⟨rfl, rfl⟩) | (go_at_call 17; with_reducible refine (C.out _).mono ?_; rintro _ _ ⟨rfl, rfl⟩) | (go_at_call 27; with_reducible refine (Ix.out _).mono ?_; rintro _ _ ⟨rfl, rfl⟩) | (go_at_call 27; with_reducible refine (Jx.out _).mono ?_; rintro _ _ ⟨rfl, rfl⟩) | (go_at_call 27; with_reducible refine (Iy.out _).mono ?_; rintro _ _ ⟨rfl, rfl⟩))
  go_ret
  exact ⟨rfl, rfl⟩
theorem t_yi (y x g : Nat) (Ny : Gives 24 #[fl1 y] (.bool false)) (Nx : Gives 24 #[fl1 x] (.bool false)) (oy : (FloatKind.f64.format.order y 0 == some .eq) = false) (ox : (FloatKind.f64.format.order x 0 == some .eq) = false) (Ix : Gives 27 #[fl1 x, .int .i64 0] (.bool false)) (Iy : Gives 27 #[fl1 y, .int .i64 0] (.bool true)) (C : Gives 17 #[fl1 4609753056924675352, fl1 y] (fl1 g)) : Gives 23 #[fl1 y, fl1 x] (fl1 g) := by
  intro w
  replace Ny := Lib.hid Ny
  replace Nx := Lib.hid Nx
  replace Ix := Lib.hid Ix
  replace Iy := Lib.hid Iy
  replace C := Lib.hid C
  go_enter Try.func23, Try.ntmps23
  go_wp2_with (first | (go_at_call 24; with_reducible refine (Ny.out _).mono ?_; rintro _ _ ⟨rfl, rfl⟩) | (go_at_call 24; with_reducible refine (Nx.out _).mono ?_; rintro _ _ ⟨rfl, rfl⟩) | (go_at_call 17; with_reducible refine (C.out _).mono ?_; rintro _ _ ⟨rfl, rfl⟩) | (go_at_call 27; with_reducible refine (Ix.out _).mono ?_; rintro _ _ ⟨rfl, rfl⟩) | (go_at_call 27; with_reducible refine (Iy.out _).mono ?_; rintro _ _ ⟨rfl, rfl⟩))
  go_ret
  exact ⟨rfl, rfl⟩
theorem t_fr (y x d q g : Nat) (Ny : Gives 24 #[fl1 y] (.bool false)) (Nx : Gives 24 #[fl1 x] (.bool false)) (oy : (FloatKind.f64.format.order y 0 == some .eq) = false) (ox : (FloatKind.f64.format.order x 0 == some .eq) = false) (Ix : Gives 27 #[fl1 x, .int .i64 0] (.bool false)) (Iy : Gives 27 #[fl1 y, .int .i64 0] (.bool false)) (dv : ∀ w, (binOp .quo 22 (.float .f64 y) (.float .f64 x)).run Try.prog w = .ok (.float .f64 d) w) (A : Gives 28 #[fl1 d] (fl1 q)) (xl : (FloatKind.f64.format.order x 0 == some .lt) = false) : Gives 23 #[fl1 y, fl1 x] (fl1 q) := by
  intro w
  replace Ny := Lib.hid Ny
  replace Nx := Lib.hid Nx
  replace Ix := Lib.hid Ix
  replace Iy := Lib.hid Iy
  replace A := Lib.hid A
  go_enter Try.func23, Try.ntmps23
  go_wp2_with (first | (go_at_call 24; with_reducible refine (Ny.out _).mono ?_; rintro _ _ ⟨rfl, rfl⟩) | (go_at_call 24; with_reducible refine (Nx.out _).mono ?_; rintro _ _ ⟨rfl, rfl⟩) | (go_at_call 27; with_reducible refine (Ix.out _).mono ?_; rintro _ _ ⟨rfl, rfl⟩) | (go_at_call 27; with_reducible refine (Iy.out _).mono ?_; rintro _ _ ⟨rfl, rfl⟩) | (go_at_call 28; with_reducible refine (A.out _).mono ?_; rintro _ _ ⟨rfl, rfl⟩))
  go_ret
  exact ⟨rfl, rfl⟩
theorem t_fla (y x d q g : Nat) (Ny : Gives 24 #[fl1 y] (.bool false)) (Nx : Gives 24 #[fl1 x] (.bool false)) (oy : (FloatKind.f64.format.order y 0 == some .eq) = false) (ox : (FloatKind.f64.format.order x 0 == some .eq) = false) (Ix : Gives 27 #[fl1 x, .int .i64 0] (.bool false)) (Iy : Gives 27 #[fl1 y, .int .i64 0] (.bool false)) (dv : ∀ w, (binOp .quo 22 (.float .f64 y) (.float .f64 x)).run Try.prog w = .ok (.float .f64 d) w) (A : Gives 28 #[fl1 d] (fl1 q)) (xl : (FloatKind.f64.format.order x 0 == some .lt) = true) (ql : (FloatKind.f64.format.order q 0 == some .lt || FloatKind.f64.format.order q 0 == some .eq) = true) (ad : ∀ w, (binOp .add 22 (.float .f64 q) (.float .f64 4614256656552045848)).run Try.prog w = .ok (.float .f64 g) w) : Gives 23 #[fl1 y, fl1 x] (fl1 g) := by
  intro w
  replace Ny := Lib.hid Ny
  replace Nx := Lib.hid Nx
  replace Ix := Lib.hid Ix
  replace Iy := Lib.hid Iy
  replace A := Lib.hid A
  go_enter Try.func23, Try.ntmps23
  go_wp2_with (first | (go_at_call 24; with_reducible refine (Ny.out _).mono ?_; rintro _ _ ⟨rfl, rfl⟩) | (go_at_call 24; with_reducible refine (Nx.out _).mono ?_; rintro _ _ ⟨rfl, rfl⟩) | (go_at_call 27; with_reducible refine (Ix.out _).mono ?_; rintro _ _ ⟨rfl, rfl⟩) | (go_at_call 27; with_reducible refine (Iy.out _).mono ?_; rintro _ _ ⟨rfl, rfl⟩) | (go_at_call 28; with_reducible refine (A.out _).mono ?_; rintro _ _ ⟨rfl, rfl⟩))
  go_ret
  exact ⟨rfl, rfl⟩
theorem t_fls (y x d q g : Nat) (Ny : Gives 24 #[fl1 y] (.bool false)) (Nx : Gives 24 #[fl1 x] (.bool false)) (oy : (FloatKind.f64.format.order y 0 == some .eq) = false) (ox : (FloatKind.f64.format.order x 0 == some .eq) = false) (Ix : Gives 27 #[fl1 x, .int .i64 0] (.bool false)) (Iy : Gives 27 #[fl1 y, .int .i64 0] (.bool false)) (dv : ∀ w, (binOp .quo 22 (.float .f64 y) (.float .f64 x)).run Try.prog w = .ok (.float .f64 d) w) (A : Gives 28 #[fl1 d] (fl1 q)) (xl : (FloatKind.f64.format.order x 0 == some .lt) = true) (ql : (FloatKind.f64.format.order q 0 == some .lt || FloatKind.f64.format.order q 0 == some .eq) = false) (ad : ∀ w, (binOp .sub 22 (.float .f64 q) (.float .f64 4614256656552045848)).run Try.prog w = .ok (.float .f64 g) w) : Gives 23 #[fl1 y, fl1 x] (fl1 g) := by
  intro w
  replace Ny := Lib.hid Ny
  replace Nx := Lib.hid Nx
  replace Ix := Lib.hid Ix
  replace Iy := Lib.hid Iy
  replace A := Lib.hid A
  go_enter Try.func23, Try.ntmps23
  go_wp2_with (first | (go_at_call 24; with_reducible refine (Ny.out _).mono ?_; rintro _ _ ⟨rfl, rfl⟩) | (go_at_call 24; with_reducible refine (Nx.out _).mono ?_; rintro _ _ ⟨rfl, rfl⟩) | (go_at_call 27; with_reducible refine (Ix.out _).mono ?_; rintro _ _ ⟨rfl, rfl⟩) | (go_at_call 27; with_reducible refine (Iy.out _).mono ?_; rintro _ _ ⟨rfl, rfl⟩) | (go_at_call 28; with_reducible refine (A.out _).mono ?_; rintro _ _ ⟨rfl, rfl⟩))
  go_ret
  exact ⟨rfl, rfl⟩
theorem at19 (y x g : Nat) (h : Gives 23 #[fl1 y, fl1 x] (fl1 g)) : Gives 19 #[fl1 y, fl1 x] (fl1 g) := by
  intro w
  replace h := Lib.hid h
  go_enter Try.func19, Try.ntmps19
  go_wp2_with (go_at_call 23; with_reducible refine (h.out _).mono ?_; rintro _ _ ⟨rfl, rfl⟩)
  go_ret
  exact ⟨rfl, rfl⟩
theorem at11 (y x g : Nat) (h : Gives 23 #[fl1 y, fl1 x] (fl1 g)) (w : World) : Calls Try.prog 11 #[.agg #[fl1 y], .agg #[fl1 x]] w (F64at g w) := by
  have H := Lib.hid (at19 y x g h)
  clear h
  go_enter Try.func11, Try.ntmps11
  go_wp2_with (first | (go_at_call 19; with_reducible refine (H.out _).mono ?_; rintro _ _ ⟨rfl, rfl⟩) | (go_at_call 5; go_in) | (refine bodyPost_ret (by simp [results, Try.results5, go_sem]; rfl) rfl ?_; simp only []; go_at_K))
  refine bodyPost_ret (v := .agg #[.float .f64 g]) (by simp [results, Try.results11, go_sem]) rfl ⟨rfl, ?_⟩
  exact ((((Below.refl _ _).alloc (Nat.le_refl _) _).alloc (by simp) _).alloc (by simp; omega) _).alloc (by simp; omega) _
end Go.Proofs.Ytdiadeebboojgaa.at
