/-
  The statement FnAtan2SpecialCases, walked case by case.
-/
import Derived.Test.YtdiadeebboojgaaAy
namespace Go.Proofs.Ytdiadeebboojgaa.at
open Go.ChangeShapes Go.WideShapes Go.ChangeAt Go.RowKit Go.Proofs.Ytdiadeebboojgaa.fl
set_option linter.unusedVariables false
set_option linter.unusedSimpArgs false
set_option maxRecDepth 100000
set_option maxHeartbeats 4000000
theorem l12 (x : Nat) : Gives 12 #[fl1 x] (.bool (nanb x)) := isnan x
theorem l13 (s : Bool) {r : Nat} (hr : r ≤ INF) : Gives 13 #[fl1 (W s r)] (.bool s) := fun w => by
  have := signbit (W s r) (W_lt s hr) w
  rw [sbW s hr] at this
  exact this
theorem l7 (g : Nat) (h : g < 18446744073709551616) : Gives 7 #[fl1 g, fl1 g] (.bool true) := same g g h (Or.inl rfl)
theorem l14 (q : Nat) (s : Bool) (hq : q ≤ INF) : Gives 14 #[fl1 q, .bool s] (fl1 (W s q)) := fun w => by
  have n : Op.negFloat .f64 q = W true q := negW false hq
  cases s with
  | false =>
    go_enter Try.func14, Try.ntmps14
    go_wp2
    go_ret
    exact ⟨rfl, rfl⟩
  | true =>
    go_enter Try.func14, Try.ntmps14
    go_wp2
    go_ret
    exact ⟨by simp [n], rfl⟩
theorem l16 (s : Bool) (r : Nat) (hr : r ≤ INF) : Gives 16 #[fl1 (W s r)] (fl1 (W false r)) := fun w => by
  have S := Lib.hid (l13 s hr)
  have n := negW s hr
  cases s with
  | false =>
    go_enter Try.func16, Try.ntmps16
    go_wp2_with (go_at_call 13; with_reducible refine (S.out _).mono ?_; rintro _ _ ⟨rfl, rfl⟩)
    go_ret
    exact ⟨rfl, rfl⟩
  | true =>
    go_enter Try.func16, Try.ntmps16
    go_wp2_with (go_at_call 13; with_reducible refine (S.out _).mono ?_; rintro _ _ ⟨rfl, rfl⟩)
    go_ret
    exact ⟨by simp [n], rfl⟩
theorem l15f (s : Bool) (r : Nat) (hr : r < INF) : Gives 15 #[fl1 (W s r)] (.bool false) := fun w => by
  have N : Gives 12 #[fl1 (W s r)] (.bool false) := by have := l12 (W s r); rw [nanW s (Nat.le_of_lt hr)] at this; exact this
  have N := Lib.hid N
  have e : floatBits .sub .f64 (W s r) (W s r) = some 0 := by
    rw [fsub s s hr hr, fadd_ge hr (Nat.le_refl _), if_pos rfl]
    have : subR r r = 0 := Nat.le_zero.1 (subR_le (by rw [V_zero, Nat.zero_add]; exact Nat.le_refl _))
    rw [this]; rfl
  replace e := fun w => run_float_arith (P := Try.prog) w .sub 22 .f64 _ _ _ e
  have z : FloatKind.f64.format.order 0 0 = some .eq := zEq false
  have o : (FloatKind.f64.format.order 0 0 != some .eq) = false := by rw [z]; rfl
  generalize W s r = x at *
  go_enter Try.func15, Try.ntmps15
  go_wp2_with (go_at_call 12; with_reducible refine (N.out _).mono ?_; rintro _ _ ⟨rfl, rfl⟩)
  go_ret
  exact ⟨by simp [o], rfl⟩
theorem l15t (s : Bool) (w : World) : Calls Try.prog 15 #[fl1 (W s INF)] w fun e w' => e = .returned (.bool true) ∧ w.drew = w' := by
  have N : Gives 12 #[fl1 (W s INF)] (.bool false) := by have := l12 (W s INF); rw [nanW s (Nat.le_refl _)] at this; exact this
  have N := Lib.hid N
  have e : ∀ w : World, ∃ n, NaNW n ∧ (binOp .sub 22 (.float .f64 (W s INF)) (.float .f64 (W s INF))).run Try.prog w = .ok (.float .f64 n) w.drew := fun w => by
    have h : FloatKind.f64.format.sub (W s INF) (W s INF) = none := by
      show F.sub (W s INF) (W s INF) = none
      unfold Ieee.Format.sub
      rw [read_inf s]
      cases s <;> rfl
    refine ⟨_, nan_made (w.tape w.drawn (.nanBits .f64 (W s INF) (W s INF))), ?_⟩
    simp [binOp, Op.floatArith, h, Question.forced]
    rfl
  obtain ⟨n, hn, e⟩ := e w
  have o : (FloatKind.f64.format.order n n != some .eq) = true := by rw [hn n]; rfl
  clear hn
  generalize W s INF = x at *
  go_enter Try.func15, Try.ntmps15
  go_wp2_with (go_at_call 12; with_reducible refine (N.out _).mono ?_; rintro _ _ ⟨rfl, rfl⟩)
  go_ret
  exact ⟨by simp [o], rfl⟩
theorem w_nan1 (y x g m : Nat) (sy : Bool) (A : ∀ w, Calls Try.prog 11 #[.agg #[fl1 y], .agg #[fl1 x]] w (F64at g w)) (Ny : Gives 12 #[fl1 y] (.bool true)) (Ng : Gives 12 #[fl1 g] (.bool true)) (w : World) : Calls Try.prog 4 #[fl1 y, fl1 x] w fun e w' => e = .returned (.bool true) ∧ Below w.heap.size w w' := by
  have BB := Below.refl w.heap.size w
  replace A := Lib.hid A
  replace Ny := Lib.hid Ny
  replace Ng := Lib.hid Ng
  go_enter Try.func4, Try.ntmps4
  go_wp2_with (first | (go_at_call 5; refine (new _ _).mono ?_; rintro _ w1 ⟨rfl, hb1⟩; replace BB := BB.trans (hb1.mono BB.size); clear hb1) | (go_at_call 11; refine (A.out _).mono ?_; rintro _ w1 ⟨rfl, hb1⟩; replace BB := BB.trans (hb1.mono BB.size); clear hb1) | (go_at_call 8; refine (value _ _).mono ?_; rintro _ w1 ⟨rfl, hb1⟩; replace BB := BB.trans (hb1.mono BB.size); clear hb1) | (go_at_call 12; with_reducible refine (Ny.out _).mono ?_; rintro _ _ ⟨rfl, rfl⟩) | (go_at_call 12; with_reducible refine (Ng.out _).mono ?_; rintro _ _ ⟨rfl, rfl⟩))
  go_ret
  first | exact ⟨rfl, BB⟩ | exact ⟨rfl, BB.drew⟩ | exact ⟨rfl, BB.drew.drew⟩ | exact ⟨by simp, BB⟩
theorem w_nan2 (y x g m : Nat) (sy : Bool) (A : ∀ w, Calls Try.prog 11 #[.agg #[fl1 y], .agg #[fl1 x]] w (F64at g w)) (Ny : Gives 12 #[fl1 y] (.bool false)) (Nx : Gives 12 #[fl1 x] (.bool true)) (Ng : Gives 12 #[fl1 g] (.bool true)) (w : World) : Calls Try.prog 4 #[fl1 y, fl1 x] w fun e w' => e = .returned (.bool true) ∧ Below w.heap.size w w' := by
  have BB := Below.refl w.heap.size w
  replace A := Lib.hid A
  replace Ny := Lib.hid Ny
  replace Nx := Lib.hid Nx
  replace Ng := Lib.hid Ng
  go_enter Try.func4, Try.ntmps4
  go_wp2_with (first | (go_at_call 5; refine (new _ _).mono ?_; rintro _ w1 ⟨rfl, hb1⟩; replace BB := BB.trans (hb1.mono BB.size); clear hb1) | (go_at_call 11; refine (A.out _).mono ?_; rintro _ w1 ⟨rfl, hb1⟩; replace BB := BB.trans (hb1.mono BB.size); clear hb1) | (go_at_call 8; refine (value _ _).mono ?_; rintro _ w1 ⟨rfl, hb1⟩; replace BB := BB.trans (hb1.mono BB.size); clear hb1) | (go_at_call 12; with_reducible refine (Ny.out _).mono ?_; rintro _ _ ⟨rfl, rfl⟩) | (go_at_call 12; with_reducible refine (Nx.out _).mono ?_; rintro _ _ ⟨rfl, rfl⟩) | (go_at_call 12; with_reducible refine (Ng.out _).mono ?_; rintro _ _ ⟨rfl, rfl⟩))
  go_ret
  first | exact ⟨rfl, BB⟩ | exact ⟨rfl, BB.drew⟩ | exact ⟨rfl, BB.drew.drew⟩ | exact ⟨by simp, BB⟩
theorem w_y0p (y x g m : Nat) (sy : Bool) (A : ∀ w, Calls Try.prog 11 #[.agg #[fl1 y], .agg #[fl1 x]] w (F64at g w)) (Ny : Gives 12 #[fl1 y] (.bool false)) (Nx : Gives 12 #[fl1 x] (.bool false)) (Sy : Gives 13 #[fl1 y] (.bool sy)) (oy : (FloatKind.f64.format.order y 0 == some .eq) = true) (xp : (FloatKind.f64.format.order x 0 == some .gt) = true) (Ws : Gives 14 #[fl1 0, .bool sy] (fl1 g)) (Sm : Gives 7 #[fl1 g, fl1 g] (.bool true)) (w : World) : Calls Try.prog 4 #[fl1 y, fl1 x] w fun e w' => e = .returned (.bool true) ∧ Below w.heap.size w w' := by
  have BB := Below.refl w.heap.size w
  replace A := Lib.hid A
  replace Ny := Lib.hid Ny
  replace Nx := Lib.hid Nx
  replace Sy := Lib.hid Sy
  replace Ws := Lib.hid Ws
  replace Sm := Lib.hid Sm
  go_enter Try.func4, Try.ntmps4
  go_wp2_with (first | (go_at_call 5; refine (new _ _).mono ?_; rintro _ w1 ⟨rfl, hb1⟩; replace BB := BB.trans (hb1.mono BB.size); clear hb1) | (go_at_call 11; refine (A.out _).mono ?_; rintro _ w1 ⟨rfl, hb1⟩; replace BB := BB.trans (hb1.mono BB.size); clear hb1) | (go_at_call 8; refine (value _ _).mono ?_; rintro _ w1 ⟨rfl, hb1⟩; replace BB := BB.trans (hb1.mono BB.size); clear hb1) | (go_at_call 12; with_reducible refine (Ny.out _).mono ?_; rintro _ _ ⟨rfl, rfl⟩) | (go_at_call 12; with_reducible refine (Nx.out _).mono ?_; rintro _ _ ⟨rfl, rfl⟩) | (go_at_call 13; with_reducible refine (Sy.out _).mono ?_; rintro _ _ ⟨rfl, rfl⟩) | (go_at_call 14; with_reducible refine (Ws.out _).mono ?_; rintro _ _ ⟨rfl, rfl⟩) | (go_at_call 7; with_reducible refine (Sm.out _).mono ?_; rintro _ _ ⟨rfl, rfl⟩))
  go_ret
  first | exact ⟨rfl, BB⟩ | exact ⟨rfl, BB.drew⟩ | exact ⟨rfl, BB.drew.drew⟩ | exact ⟨by simp, BB⟩
theorem w_y0z (y x g m : Nat) (sy : Bool) (A : ∀ w, Calls Try.prog 11 #[.agg #[fl1 y], .agg #[fl1 x]] w (F64at g w)) (Ny : Gives 12 #[fl1 y] (.bool false)) (Nx : Gives 12 #[fl1 x] (.bool false)) (Sy : Gives 13 #[fl1 y] (.bool sy)) (oy : (FloatKind.f64.format.order y 0 == some .eq) = true) (xp : (FloatKind.f64.format.order x 0 == some .gt) = false) (ox : (FloatKind.f64.format.order x 0 == some .eq) = true) (Sx : Gives 13 #[fl1 x] (.bool false)) (Ws : Gives 14 #[fl1 0, .bool sy] (fl1 g)) (Sm : Gives 7 #[fl1 g, fl1 g] (.bool true)) (w : World) : Calls Try.prog 4 #[fl1 y, fl1 x] w fun e w' => e = .returned (.bool true) ∧ Below w.heap.size w w' := by
  have BB := Below.refl w.heap.size w
  replace A := Lib.hid A
  replace Ny := Lib.hid Ny
  replace Nx := Lib.hid Nx
  replace Sy := Lib.hid Sy
  replace Sx := Lib.hid Sx
  replace Ws := Lib.hid Ws
  replace Sm := Lib.hid Sm
  go_enter Try.func4, Try.ntmps4
  go_wp2_with (first | (go_at_call 5; refine (new _ _).mono ?_; rintro _ w1 ⟨rfl, hb1⟩; replace BB := BB.trans (hb1.mono BB.size); clear hb1) | (go_at_call 11; refine (A.out _).mono ?_; rintro _ w1 ⟨rfl, hb1⟩; replace BB := BB.trans (hb1.mono BB.size); clear hb1) | (go_at_call 8; refine (value _ _).mono ?_; rintro _ w1 ⟨rfl, hb1⟩; replace BB := BB.trans (hb1.mono BB.size); clear hb1) | (go_at_call 12; with_reducible refine (Ny.out _).mono ?_; rintro _ _ ⟨rfl, rfl⟩) | (go_at_call 12; with_reducible refine (Nx.out _).mono ?_; rintro _ _ ⟨rfl, rfl⟩) | (go_at_call 13; with_reducible refine (Sy.out _).mono ?_; rintro _ _ ⟨rfl, rfl⟩) | (go_at_call 13; with_reducible refine (Sx.out _).mono ?_; rintro _ _ ⟨rfl, rfl⟩) | (go_at_call 14; with_reducible refine (Ws.out _).mono ?_; rintro _ _ ⟨rfl, rfl⟩) | (go_at_call 7; with_reducible refine (Sm.out _).mono ?_; rintro _ _ ⟨rfl, rfl⟩))
  go_ret
  first | exact ⟨rfl, BB⟩ | exact ⟨rfl, BB.drew⟩ | exact ⟨rfl, BB.drew.drew⟩ | exact ⟨by simp, BB⟩
theorem w_y0n (y x g m : Nat) (sy : Bool) (A : ∀ w, Calls Try.prog 11 #[.agg #[fl1 y], .agg #[fl1 x]] w (F64at g w)) (Ny : Gives 12 #[fl1 y] (.bool false)) (Nx : Gives 12 #[fl1 x] (.bool false)) (Sy : Gives 13 #[fl1 y] (.bool sy)) (oy : (FloatKind.f64.format.order y 0 == some .eq) = true) (xp : (FloatKind.f64.format.order x 0 == some .gt) = false) (ox : (FloatKind.f64.format.order x 0 == some .eq) = false) (Ws : Gives 14 #[fl1 4614256656552045848, .bool sy] (fl1 g)) (Sm : Gives 7 #[fl1 g, fl1 g] (.bool true)) (w : World) : Calls Try.prog 4 #[fl1 y, fl1 x] w fun e w' => e = .returned (.bool true) ∧ Below w.heap.size w w' := by
  have BB := Below.refl w.heap.size w
  replace A := Lib.hid A
  replace Ny := Lib.hid Ny
  replace Nx := Lib.hid Nx
  replace Sy := Lib.hid Sy
  replace Ws := Lib.hid Ws
  replace Sm := Lib.hid Sm
  go_enter Try.func4, Try.ntmps4
  go_wp2_with (first | (go_at_call 5; refine (new _ _).mono ?_; rintro _ w1 ⟨rfl, hb1⟩; replace BB := BB.trans (hb1.mono BB.size); clear hb1) | (go_at_call 11; refine (A.out _).mono ?_; rintro _ w1 ⟨rfl, hb1⟩; replace BB := BB.trans (hb1.mono BB.size); clear hb1) | (go_at_call 8; refine (value _ _).mono ?_; rintro _ w1 ⟨rfl, hb1⟩; replace BB := BB.trans (hb1.mono BB.size); clear hb1) | (go_at_call 12; with_reducible refine (Ny.out _).mono ?_; rintro _ _ ⟨rfl, rfl⟩) | (go_at_call 12; with_reducible refine (Nx.out _).mono ?_; rintro _ _ ⟨rfl, rfl⟩) | (go_at_call 13; with_reducible refine (Sy.out _).mono ?_; rintro _ _ ⟨rfl, rfl⟩) | (go_at_call 14; with_reducible refine (Ws.out _).mono ?_; rintro _ _ ⟨rfl, rfl⟩) | (go_at_call 7; with_reducible refine (Sm.out _).mono ?_; rintro _ _ ⟨rfl, rfl⟩))
  go_ret
  first | exact ⟨rfl, BB⟩ | exact ⟨rfl, BB.drew⟩ | exact ⟨rfl, BB.drew.drew⟩ | exact ⟨by simp, BB⟩
theorem w_y0nz (y x g m : Nat) (sy : Bool) (A : ∀ w, Calls Try.prog 11 #[.agg #[fl1 y], .agg #[fl1 x]] w (F64at g w)) (Ny : Gives 12 #[fl1 y] (.bool false)) (Nx : Gives 12 #[fl1 x] (.bool false)) (Sy : Gives 13 #[fl1 y] (.bool sy)) (oy : (FloatKind.f64.format.order y 0 == some .eq) = true) (xp : (FloatKind.f64.format.order x 0 == some .gt) = false) (ox : (FloatKind.f64.format.order x 0 == some .eq) = true) (Sx : Gives 13 #[fl1 x] (.bool true)) (Ws : Gives 14 #[fl1 4614256656552045848, .bool sy] (fl1 g)) (Sm : Gives 7 #[fl1 g, fl1 g] (.bool true)) (w : World) : Calls Try.prog 4 #[fl1 y, fl1 x] w fun e w' => e = .returned (.bool true) ∧ Below w.heap.size w w' := by
  have BB := Below.refl w.heap.size w
  replace A := Lib.hid A
  replace Ny := Lib.hid Ny
  replace Nx := Lib.hid Nx
  replace Sy := Lib.hid Sy
  replace Sx := Lib.hid Sx
  replace Ws := Lib.hid Ws
  replace Sm := Lib.hid Sm
  go_enter Try.func4, Try.ntmps4
  go_wp2_with (first | (go_at_call 5; refine (new _ _).mono ?_; rintro _ w1 ⟨rfl, hb1⟩; replace BB := BB.trans (hb1.mono BB.size); clear hb1) | (go_at_call 11; refine (A.out _).mono ?_; rintro _ w1 ⟨rfl, hb1⟩; replace BB := BB.trans (hb1.mono BB.size); clear hb1) | (go_at_call 8; refine (value _ _).mono ?_; rintro _ w1 ⟨rfl, hb1⟩; replace BB := BB.trans (hb1.mono BB.size); clear hb1) | (go_at_call 12; with_reducible refine (Ny.out _).mono ?_; rintro _ _ ⟨rfl, rfl⟩) | (go_at_call 12; with_reducible refine (Nx.out _).mono ?_; rintro _ _ ⟨rfl, rfl⟩) | (go_at_call 13; with_reducible refine (Sy.out _).mono ?_; rintro _ _ ⟨rfl, rfl⟩) | (go_at_call 13; with_reducible refine (Sx.out _).mono ?_; rintro _ _ ⟨rfl, rfl⟩) | (go_at_call 14; with_reducible refine (Ws.out _).mono ?_; rintro _ _ ⟨rfl, rfl⟩) | (go_at_call 7; with_reducible refine (Sm.out _).mono ?_; rintro _ _ ⟨rfl, rfl⟩))
  go_ret
  first | exact ⟨rfl, BB⟩ | exact ⟨rfl, BB.drew⟩ | exact ⟨rfl, BB.drew.drew⟩ | exact ⟨by simp, BB⟩
theorem w_x0 (y x g m : Nat) (sy : Bool) (A : ∀ w, Calls Try.prog 11 #[.agg #[fl1 y], .agg #[fl1 x]] w (F64at g w)) (Ny : Gives 12 #[fl1 y] (.bool false)) (Nx : Gives 12 #[fl1 x] (.bool false)) (Sy : Gives 13 #[fl1 y] (.bool sy)) (oy : (FloatKind.f64.format.order y 0 == some .eq) = false) (ox : (FloatKind.f64.format.order x 0 == some .eq) = true) (Ws : Gives 14 #[fl1 4609753056924675352, .bool sy] (fl1 g)) (Sm : Gives 7 #[fl1 g, fl1 g] (.bool true)) (w : World) : Calls Try.prog 4 #[fl1 y, fl1 x] w fun e w' => e = .returned (.bool true) ∧ Below w.heap.size w w' := by
  have BB := Below.refl w.heap.size w
  replace A := Lib.hid A
  replace Ny := Lib.hid Ny
  replace Nx := Lib.hid Nx
  replace Sy := Lib.hid Sy
  replace Ws := Lib.hid Ws
  replace Sm := Lib.hid Sm
  go_enter Try.func4, Try.ntmps4
  go_wp2_with (first | (go_at_call 5; refine (new _ _).mono ?_; rintro _ w1 ⟨rfl, hb1⟩; replace BB := BB.trans (hb1.mono BB.size); clear hb1) | (go_at_call 11; refine (A.out _).mono ?_; rintro _ w1 ⟨rfl, hb1⟩; replace BB := BB.trans (hb1.mono BB.size); clear hb1) | (go_at_call 8; refine (value _ _).mono ?_; rintro _ w1 ⟨rfl, hb1⟩; replace BB := BB.trans (hb1.mono BB.size); clear hb1) | (go_at_call 12; with_reducible refine (Ny.out _).mono ?_; rintro _ _ ⟨rfl, rfl⟩) | (go_at_call 12; with_reducible refine (Nx.out _).mono ?_; rintro _ _ ⟨rfl, rfl⟩) | (go_at_call 13; with_reducible refine (Sy.out _).mono ?_; rintro _ _ ⟨rfl, rfl⟩) | (go_at_call 14; with_reducible refine (Ws.out _).mono ?_; rintro _ _ ⟨rfl, rfl⟩) | (go_at_call 7; with_reducible refine (Sm.out _).mono ?_; rintro _ _ ⟨rfl, rfl⟩))
  go_ret
  first | exact ⟨rfl, BB⟩ | exact ⟨rfl, BB.drew⟩ | exact ⟨rfl, BB.drew.drew⟩ | exact ⟨by simp, BB⟩
theorem w_ipi (y x g m : Nat) (sy : Bool) (A : ∀ w, Calls Try.prog 11 #[.agg #[fl1 y], .agg #[fl1 x]] w (F64at g w)) (Ny : Gives 12 #[fl1 y] (.bool false)) (Nx : Gives 12 #[fl1 x] (.bool false)) (Sy : Gives 13 #[fl1 y] (.bool sy)) (oy : (FloatKind.f64.format.order y 0 == some .eq) = false) (ox : (FloatKind.f64.format.order x 0 == some .eq) = false) (Ix : ∀ w, Calls Try.prog 15 #[fl1 x] w fun e w' => e = .returned (.bool true) ∧ w.drew = w') (xp : (FloatKind.f64.format.order x 0 == some .gt) = true) (Iy : ∀ w, Calls Try.prog 15 #[fl1 y] w fun e w' => e = .returned (.bool true) ∧ w.drew = w') (Ws : Gives 14 #[fl1 4605249457297304856, .bool sy] (fl1 g)) (Sm : Gives 7 #[fl1 g, fl1 g] (.bool true)) (w : World) : Calls Try.prog 4 #[fl1 y, fl1 x] w fun e w' => e = .returned (.bool true) ∧ Below w.heap.size w w' := by
  have BB := Below.refl w.heap.size w
  replace A := Lib.hid A
  replace Ny := Lib.hid Ny
  replace Nx := Lib.hid Nx
  replace Sy := Lib.hid Sy
  replace Ix := Lib.hid Ix
  replace Iy := Lib.hid Iy
  replace Ws := Lib.hid Ws
  replace Sm := Lib.hid Sm
  go_enter Try.func4, Try.ntmps4
  go_wp2_with (first | (go_at_call 5; refine (new _ _).mono ?_; rintro _ w1 ⟨rfl, hb1⟩; replace BB := BB.trans (hb1.mono BB.size); clear hb1) | (go_at_call 11; refine (A.out _).mono ?_; rintro _ w1 ⟨rfl, hb1⟩; replace BB := BB.trans (hb1.mono BB.size); clear hb1) | (go_at_call 8; refine (value _ _).mono ?_; rintro _ w1 ⟨rfl, hb1⟩; replace BB := BB.trans (hb1.mono BB.size); clear hb1) | (go_at_call 12; with_reducible refine (Ny.out _).mono ?_; rintro _ _ ⟨rfl, rfl⟩) | (go_at_call 12; with_reducible refine (Nx.out _).mono ?_; rintro _ _ ⟨rfl, rfl⟩) | (go_at_call 13; with_reducible refine (Sy.out _).mono ?_; rintro _ _ ⟨rfl, rfl⟩) | (go_at_call 15; with_reducible refine (Ix.out _).mono ?_; rintro _ _ ⟨rfl, rfl⟩) | (go_at_call 15; with_reducible refine (Iy.out _).mono ?_; rintro _ _ ⟨rfl, rfl⟩) | (go_at_call 14; with_reducible refine (Ws.out _).mono ?_; rintro _ _ ⟨rfl, rfl⟩) | (go_at_call 7; with_reducible refine (Sm.out _).mono ?_; rintro _ _ ⟨rfl, rfl⟩))
  go_ret
  first | exact ⟨rfl, BB⟩ | exact ⟨rfl, BB.drew⟩ | exact ⟨rfl, BB.drew.drew⟩ | exact ⟨by simp, BB⟩
theorem w_ipf (y x g m : Nat) (sy : Bool) (A : ∀ w, Calls Try.prog 11 #[.agg #[fl1 y], .agg #[fl1 x]] w (F64at g w)) (Ny : Gives 12 #[fl1 y] (.bool false)) (Nx : Gives 12 #[fl1 x] (.bool false)) (Sy : Gives 13 #[fl1 y] (.bool sy)) (oy : (FloatKind.f64.format.order y 0 == some .eq) = false) (ox : (FloatKind.f64.format.order x 0 == some .eq) = false) (Ix : ∀ w, Calls Try.prog 15 #[fl1 x] w fun e w' => e = .returned (.bool true) ∧ w.drew = w') (xp : (FloatKind.f64.format.order x 0 == some .gt) = true) (Iy : Gives 15 #[fl1 y] (.bool false)) (Ws : Gives 14 #[fl1 0, .bool sy] (fl1 g)) (Sm : Gives 7 #[fl1 g, fl1 g] (.bool true)) (w : World) : Calls Try.prog 4 #[fl1 y, fl1 x] w fun e w' => e = .returned (.bool true) ∧ Below w.heap.size w w' := by
  have BB := Below.refl w.heap.size w
  replace A := Lib.hid A
  replace Ny := Lib.hid Ny
  replace Nx := Lib.hid Nx
  replace Sy := Lib.hid Sy
  replace Ix := Lib.hid Ix
  replace Iy := Lib.hid Iy
  replace Ws := Lib.hid Ws
  replace Sm := Lib.hid Sm
  go_enter Try.func4, Try.ntmps4
  go_wp2_with (first | (go_at_call 5; refine (new _ _).mono ?_; rintro _ w1 ⟨rfl, hb1⟩; replace BB := BB.trans (hb1.mono BB.size); clear hb1) | (go_at_call 11; refine (A.out _).mono ?_; rintro _ w1 ⟨rfl, hb1⟩; replace BB := BB.trans (hb1.mono BB.size); clear hb1) | (go_at_call 8; refine (value _ _).mono ?_; rintro _ w1 ⟨rfl, hb1⟩; replace BB := BB.trans (hb1.mono BB.size); clear hb1) | (go_at_call 12; with_reducible refine (Ny.out _).mono ?_; rintro _ _ ⟨rfl, rfl⟩) | (go_at_call 12; with_reducible refine (Nx.out _).mono ?_; rintro _ _ ⟨rfl, rfl⟩) | (go_at_call 13; with_reducible refine (Sy.out _).mono ?_; rintro _ _ ⟨rfl, rfl⟩) | (go_at_call 15; with_reducible refine (Ix.out _).mono ?_; rintro _ _ ⟨rfl, rfl⟩) | (go_at_call 15; with_reducible refine (Iy.out _).mono ?_; rintro _ _ ⟨rfl, rfl⟩) | (go_at_call 14; with_reducible refine (Ws.out _).mono ?_; rintro _ _ ⟨rfl, rfl⟩) | (go_at_call 7; with_reducible refine (Sm.out _).mono ?_; rintro _ _ ⟨rfl, rfl⟩))
  go_ret
  first | exact ⟨rfl, BB⟩ | exact ⟨rfl, BB.drew⟩ | exact ⟨rfl, BB.drew.drew⟩ | exact ⟨by simp, BB⟩
theorem w_ini (y x g m : Nat) (sy : Bool) (A : ∀ w, Calls Try.prog 11 #[.agg #[fl1 y], .agg #[fl1 x]] w (F64at g w)) (Ny : Gives 12 #[fl1 y] (.bool false)) (Nx : Gives 12 #[fl1 x] (.bool false)) (Sy : Gives 13 #[fl1 y] (.bool sy)) (oy : (FloatKind.f64.format.order y 0 == some .eq) = false) (ox : (FloatKind.f64.format.order x 0 == some .eq) = false) (Ix : ∀ w, Calls Try.prog 15 #[fl1 x] w fun e w' => e = .returned (.bool true) ∧ w.drew = w') (xp : (FloatKind.f64.format.order x 0 == some .gt) = false) (Iy : ∀ w, Calls Try.prog 15 #[fl1 y] w fun e w' => e = .returned (.bool true) ∧ w.drew = w') (Ws : Gives 14 #[fl1 4612488097114038738, .bool sy] (fl1 g)) (Sm : Gives 7 #[fl1 g, fl1 g] (.bool true)) (w : World) : Calls Try.prog 4 #[fl1 y, fl1 x] w fun e w' => e = .returned (.bool true) ∧ Below w.heap.size w w' := by
  have BB := Below.refl w.heap.size w
  replace A := Lib.hid A
  replace Ny := Lib.hid Ny
  replace Nx := Lib.hid Nx
  replace Sy := Lib.hid Sy
  replace Ix := Lib.hid Ix
  replace Iy := Lib.hid Iy
  replace Ws := Lib.hid Ws
  replace Sm := Lib.hid Sm
  go_enter Try.func4, Try.ntmps4
  go_wp2_with (first | (go_at_call 5; refine (new _ _).mono ?_; rintro _ w1 ⟨rfl, hb1⟩; replace BB := BB.trans (hb1.mono BB.size); clear hb1) | (go_at_call 11; refine (A.out _).mono ?_; rintro _ w1 ⟨rfl, hb1⟩; replace BB := BB.trans (hb1.mono BB.size); clear hb1) | (go_at_call 8; refine (value _ _).mono ?_; rintro _ w1 ⟨rfl, hb1⟩; replace BB := BB.trans (hb1.mono BB.size); clear hb1) | (go_at_call 12; with_reducible refine (Ny.out _).mono ?_; rintro _ _ ⟨rfl, rfl⟩) | (go_at_call 12; with_reducible refine (Nx.out _).mono ?_; rintro _ _ ⟨rfl, rfl⟩) | (go_at_call 13; with_reducible refine (Sy.out _).mono ?_; rintro _ _ ⟨rfl, rfl⟩) | (go_at_call 15; with_reducible refine (Ix.out _).mono ?_; rintro _ _ ⟨rfl, rfl⟩) | (go_at_call 15; with_reducible refine (Iy.out _).mono ?_; rintro _ _ ⟨rfl, rfl⟩) | (go_at_call 14; with_reducible refine (Ws.out _).mono ?_; rintro _ _ ⟨rfl, rfl⟩) | (go_at_call 7; with_reducible refine (Sm.out _).mono ?_; rintro _ _ ⟨rfl, rfl⟩))
  go_ret
  first | exact ⟨rfl, BB⟩ | exact ⟨rfl, BB.drew⟩ | exact ⟨rfl, BB.drew.drew⟩ | exact ⟨by simp, BB⟩
theorem w_inf (y x g m : Nat) (sy : Bool) (A : ∀ w, Calls Try.prog 11 #[.agg #[fl1 y], .agg #[fl1 x]] w (F64at g w)) (Ny : Gives 12 #[fl1 y] (.bool false)) (Nx : Gives 12 #[fl1 x] (.bool false)) (Sy : Gives 13 #[fl1 y] (.bool sy)) (oy : (FloatKind.f64.format.order y 0 == some .eq) = false) (ox : (FloatKind.f64.format.order x 0 == some .eq) = false) (Ix : ∀ w, Calls Try.prog 15 #[fl1 x] w fun e w' => e = .returned (.bool true) ∧ w.drew = w') (xp : (FloatKind.f64.format.order x 0 == some .gt) = false) (Iy : Gives 15 #[fl1 y] (.bool false)) (Ws : Gives 14 #[fl1 4614256656552045848, .bool sy] (fl1 g)) (Sm : Gives 7 #[fl1 g, fl1 g] (.bool true)) (w : World) : Calls Try.prog 4 #[fl1 y, fl1 x] w fun e w' => e = .returned (.bool true) ∧ Below w.heap.size w w' := by
  have BB := Below.refl w.heap.size w
  replace A := Lib.hid A
  replace Ny := Lib.hid Ny
  replace Nx := Lib.hid Nx
  replace Sy := Lib.hid Sy
  replace Ix := Lib.hid Ix
  replace Iy := Lib.hid Iy
  replace Ws := Lib.hid Ws
  replace Sm := Lib.hid Sm
  go_enter Try.func4, Try.ntmps4
  go_wp2_with (first | (go_at_call 5; refine (new _ _).mono ?_; rintro _ w1 ⟨rfl, hb1⟩; replace BB := BB.trans (hb1.mono BB.size); clear hb1) | (go_at_call 11; refine (A.out _).mono ?_; rintro _ w1 ⟨rfl, hb1⟩; replace BB := BB.trans (hb1.mono BB.size); clear hb1) | (go_at_call 8; refine (value _ _).mono ?_; rintro _ w1 ⟨rfl, hb1⟩; replace BB := BB.trans (hb1.mono BB.size); clear hb1) | (go_at_call 12; with_reducible refine (Ny.out _).mono ?_; rintro _ _ ⟨rfl, rfl⟩) | (go_at_call 12; with_reducible refine (Nx.out _).mono ?_; rintro _ _ ⟨rfl, rfl⟩) | (go_at_call 13; with_reducible refine (Sy.out _).mono ?_; rintro _ _ ⟨rfl, rfl⟩) | (go_at_call 15; with_reducible refine (Ix.out _).mono ?_; rintro _ _ ⟨rfl, rfl⟩) | (go_at_call 15; with_reducible refine (Iy.out _).mono ?_; rintro _ _ ⟨rfl, rfl⟩) | (go_at_call 14; with_reducible refine (Ws.out _).mono ?_; rintro _ _ ⟨rfl, rfl⟩) | (go_at_call 7; with_reducible refine (Sm.out _).mono ?_; rintro _ _ ⟨rfl, rfl⟩))
  go_ret
  first | exact ⟨rfl, BB⟩ | exact ⟨rfl, BB.drew⟩ | exact ⟨rfl, BB.drew.drew⟩ | exact ⟨by simp, BB⟩
theorem w_yi (y x g m : Nat) (sy : Bool) (A : ∀ w, Calls Try.prog 11 #[.agg #[fl1 y], .agg #[fl1 x]] w (F64at g w)) (Ny : Gives 12 #[fl1 y] (.bool false)) (Nx : Gives 12 #[fl1 x] (.bool false)) (Sy : Gives 13 #[fl1 y] (.bool sy)) (oy : (FloatKind.f64.format.order y 0 == some .eq) = false) (ox : (FloatKind.f64.format.order x 0 == some .eq) = false) (Ix : Gives 15 #[fl1 x] (.bool false)) (Iy : ∀ w, Calls Try.prog 15 #[fl1 y] w fun e w' => e = .returned (.bool true) ∧ w.drew = w') (Ws : Gives 14 #[fl1 4609753056924675352, .bool sy] (fl1 g)) (Sm : Gives 7 #[fl1 g, fl1 g] (.bool true)) (w : World) : Calls Try.prog 4 #[fl1 y, fl1 x] w fun e w' => e = .returned (.bool true) ∧ Below w.heap.size w w' := by
  have BB := Below.refl w.heap.size w
  replace A := Lib.hid A
  replace Ny := Lib.hid Ny
  replace Nx := Lib.hid Nx
  replace Sy := Lib.hid Sy
  replace Ix := Lib.hid Ix
  replace Iy := Lib.hid Iy
  replace Ws := Lib.hid Ws
  replace Sm := Lib.hid Sm
  go_enter Try.func4, Try.ntmps4
  go_wp2_with (first | (go_at_call 5; refine (new _ _).mono ?_; rintro _ w1 ⟨rfl, hb1⟩; replace BB := BB.trans (hb1.mono BB.size); clear hb1) | (go_at_call 11; refine (A.out _).mono ?_; rintro _ w1 ⟨rfl, hb1⟩; replace BB := BB.trans (hb1.mono BB.size); clear hb1) | (go_at_call 8; refine (value _ _).mono ?_; rintro _ w1 ⟨rfl, hb1⟩; replace BB := BB.trans (hb1.mono BB.size); clear hb1) | (go_at_call 12; with_reducible refine (Ny.out _).mono ?_; rintro _ _ ⟨rfl, rfl⟩) | (go_at_call 12; with_reducible refine (Nx.out _).mono ?_; rintro _ _ ⟨rfl, rfl⟩) | (go_at_call 13; with_reducible refine (Sy.out _).mono ?_; rintro _ _ ⟨rfl, rfl⟩) | (go_at_call 15; with_reducible refine (Ix.out _).mono ?_; rintro _ _ ⟨rfl, rfl⟩) | (go_at_call 15; with_reducible refine (Iy.out _).mono ?_; rintro _ _ ⟨rfl, rfl⟩) | (go_at_call 14; with_reducible refine (Ws.out _).mono ?_; rintro _ _ ⟨rfl, rfl⟩) | (go_at_call 7; with_reducible refine (Sm.out _).mono ?_; rintro _ _ ⟨rfl, rfl⟩))
  go_ret
  first | exact ⟨rfl, BB⟩ | exact ⟨rfl, BB.drew⟩ | exact ⟨rfl, BB.drew.drew⟩ | exact ⟨by simp, BB⟩
theorem w_fr (y x g m : Nat) (sy : Bool) (A : ∀ w, Calls Try.prog 11 #[.agg #[fl1 y], .agg #[fl1 x]] w (F64at g w)) (Ny : Gives 12 #[fl1 y] (.bool false)) (Nx : Gives 12 #[fl1 x] (.bool false)) (Sy : Gives 13 #[fl1 y] (.bool sy)) (oy : (FloatKind.f64.format.order y 0 == some .eq) = false) (ox : (FloatKind.f64.format.order x 0 == some .eq) = false) (Ix : Gives 15 #[fl1 x] (.bool false)) (Iy : Gives 15 #[fl1 y] (.bool false)) (Ng : Gives 12 #[fl1 g] (.bool false)) (Ab : Gives 16 #[fl1 g] (fl1 m)) (xp : (FloatKind.f64.format.order x 0 == some .gt) = true) (ml : (FloatKind.f64.format.order m 4609753056924675352 == some .lt || FloatKind.f64.format.order m 4609753056924675352 == some .eq) = true) (Sg : Gives 13 #[fl1 g] (.bool sy)) (w : World) : Calls Try.prog 4 #[fl1 y, fl1 x] w fun e w' => e = .returned (.bool true) ∧ Below w.heap.size w w' := by
  have BB := Below.refl w.heap.size w
  replace A := Lib.hid A
  replace Ny := Lib.hid Ny
  replace Nx := Lib.hid Nx
  replace Sy := Lib.hid Sy
  replace Ix := Lib.hid Ix
  replace Iy := Lib.hid Iy
  replace Ng := Lib.hid Ng
  replace Ab := Lib.hid Ab
  replace Sg := Lib.hid Sg
  go_enter Try.func4, Try.ntmps4
  go_wp2_with (first | (go_at_call 5; refine (new _ _).mono ?_; rintro _ w1 ⟨rfl, hb1⟩; replace BB := BB.trans (hb1.mono BB.size); clear hb1) | (go_at_call 11; refine (A.out _).mono ?_; rintro _ w1 ⟨rfl, hb1⟩; replace BB := BB.trans (hb1.mono BB.size); clear hb1) | (go_at_call 8; refine (value _ _).mono ?_; rintro _ w1 ⟨rfl, hb1⟩; replace BB := BB.trans (hb1.mono BB.size); clear hb1) | (go_at_call 12; with_reducible refine (Ny.out _).mono ?_; rintro _ _ ⟨rfl, rfl⟩) | (go_at_call 12; with_reducible refine (Nx.out _).mono ?_; rintro _ _ ⟨rfl, rfl⟩) | (go_at_call 13; with_reducible refine (Sy.out _).mono ?_; rintro _ _ ⟨rfl, rfl⟩) | (go_at_call 15; with_reducible refine (Ix.out _).mono ?_; rintro _ _ ⟨rfl, rfl⟩) | (go_at_call 15; with_reducible refine (Iy.out _).mono ?_; rintro _ _ ⟨rfl, rfl⟩) | (go_at_call 12; with_reducible refine (Ng.out _).mono ?_; rintro _ _ ⟨rfl, rfl⟩) | (go_at_call 16; with_reducible refine (Ab.out _).mono ?_; rintro _ _ ⟨rfl, rfl⟩) | (go_at_call 13; with_reducible refine (Sg.out _).mono ?_; rintro _ _ ⟨rfl, rfl⟩))
  go_ret
  first | exact ⟨rfl, BB⟩ | exact ⟨rfl, BB.drew⟩ | exact ⟨rfl, BB.drew.drew⟩ | exact ⟨by simp, BB⟩
theorem w_fl (y x g m : Nat) (sy : Bool) (A : ∀ w, Calls Try.prog 11 #[.agg #[fl1 y], .agg #[fl1 x]] w (F64at g w)) (Ny : Gives 12 #[fl1 y] (.bool false)) (Nx : Gives 12 #[fl1 x] (.bool false)) (Sy : Gives 13 #[fl1 y] (.bool sy)) (oy : (FloatKind.f64.format.order y 0 == some .eq) = false) (ox : (FloatKind.f64.format.order x 0 == some .eq) = false) (Ix : Gives 15 #[fl1 x] (.bool false)) (Iy : Gives 15 #[fl1 y] (.bool false)) (Ng : Gives 12 #[fl1 g] (.bool false)) (Ab : Gives 16 #[fl1 g] (fl1 m)) (xp : (FloatKind.f64.format.order x 0 == some .gt) = false) (mg : (FloatKind.f64.format.order m 4609753056924675352 == some .gt || FloatKind.f64.format.order m 4609753056924675352 == some .eq) = true) (ml : (FloatKind.f64.format.order m 4614256656552045848 == some .lt || FloatKind.f64.format.order m 4614256656552045848 == some .eq) = true) (w : World) : Calls Try.prog 4 #[fl1 y, fl1 x] w fun e w' => e = .returned (.bool true) ∧ Below w.heap.size w w' := by
  have BB := Below.refl w.heap.size w
  replace A := Lib.hid A
  replace Ny := Lib.hid Ny
  replace Nx := Lib.hid Nx
  replace Sy := Lib.hid Sy
  replace Ix := Lib.hid Ix
  replace Iy := Lib.hid Iy
  replace Ng := Lib.hid Ng
  replace Ab := Lib.hid Ab
  go_enter Try.func4, Try.ntmps4
  go_wp2_with (first | (go_at_call 5; refine (new _ _).mono ?_; rintro _ w1 ⟨rfl, hb1⟩; replace BB := BB.trans (hb1.mono BB.size); clear hb1) | (go_at_call 11; refine (A.out _).mono ?_; rintro _ w1 ⟨rfl, hb1⟩; replace BB := BB.trans (hb1.mono BB.size); clear hb1) | (go_at_call 8; refine (value _ _).mono ?_; rintro _ w1 ⟨rfl, hb1⟩; replace BB := BB.trans (hb1.mono BB.size); clear hb1) | (go_at_call 12; with_reducible refine (Ny.out _).mono ?_; rintro _ _ ⟨rfl, rfl⟩) | (go_at_call 12; with_reducible refine (Nx.out _).mono ?_; rintro _ _ ⟨rfl, rfl⟩) | (go_at_call 13; with_reducible refine (Sy.out _).mono ?_; rintro _ _ ⟨rfl, rfl⟩) | (go_at_call 15; with_reducible refine (Ix.out _).mono ?_; rintro _ _ ⟨rfl, rfl⟩) | (go_at_call 15; with_reducible refine (Iy.out _).mono ?_; rintro _ _ ⟨rfl, rfl⟩) | (go_at_call 12; with_reducible refine (Ng.out _).mono ?_; rintro _ _ ⟨rfl, rfl⟩) | (go_at_call 16; with_reducible refine (Ab.out _).mono ?_; rintro _ _ ⟨rfl, rfl⟩))
  go_ret
  first | exact ⟨rfl, BB⟩ | exact ⟨rfl, BB.drew⟩ | exact ⟨rfl, BB.drew.drew⟩ | exact ⟨by simp, BB⟩
end Go.Proofs.Ytdiadeebboojgaa.at
