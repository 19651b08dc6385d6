/-
  The arc tangent of Go's library, walked: what it gives on a double that is no NaN.
-/
import Derived.Test.YtdiadeebboojgaaFlc
import Derived.Test.YtdiadeebboojgaaAu
import Derived.WalkKit
import Derived.ProofKit
import Derived.OpenShut
import Derived.Lib.Hide
import Derived.WalkLawsBesides
namespace Go.Proofs.Ytdiadeebboojgaa.at
open Go.ChangeShapes Go.WideShapes Go.ChangeAt Go.RowKit
set_option linter.unusedVariables false
set_option linter.unusedSimpArgs false
set_option maxRecDepth 100000
set_option maxHeartbeats 4000000
abbrev fl1 (x : Nat) : Value := .float .f64 x
theorem xatan (s : Bool) (r : Nat) (hr : r ≤ c66) : ∃ s' r', r' ≤ r ∧ (s' = s ∨ (s' = false ∧ r' = 0)) ∧ ∀ w : World, Calls Try.prog 32 #[fl1 (W s r)] w fun e w' => e = .returned (fl1 (W s' r')) ∧ w = w' := by
  obtain ⟨z, a1, b1, a2, b2, a3, b3, a4, b4, e, f1, k1, f2, k2, f3, k3, f4, k4, f5, q, y, s', r', h1, h2, h3, h4, h5, h6, h7, h8, h9, h10, h11, h12, h13, h14, h15, h16, h17, h18, h19, h20, h21, h22, hle, hs⟩ := poly s r hr
  have R : ∀ (op : BinOp) {x y r : Nat}, floatBits op .f64 x y = some r → ∀ w, (binOp op 22 (.float .f64 x) (.float .f64 y)).run Try.prog w = .ok (.float .f64 r) w := fun op x y r h w => run_float_arith w op 22 .f64 x y r h
  refine ⟨s', r', hle, hs, fun w => ?_⟩
  replace h1 := R _ h1; replace h2 := R _ h2; replace h3 := R _ h3; replace h4 := R _ h4; replace h5 := R _ h5; replace h6 := R _ h6; replace h7 := R _ h7
  replace h8 := R _ h8; replace h9 := R _ h9; replace h10 := R _ h10; replace h11 := R _ h11; replace h12 := R _ h12; replace h13 := R _ h13; replace h14 := R _ h14
  replace h15 := R _ h15; replace h16 := R _ h16; replace h17 := R _ h17; replace h18 := R _ h18; replace h19 := R _ h19; replace h20 := R _ h20; replace h21 := R _ h21; replace h22 := R _ h22
  clear R hle hs hr
  obtain ⟨v, hv⟩ : ∃ v, W s' r' = v := ⟨_, rfl⟩
  rw [hv] at h22 ⊢
  clear hv
  generalize W s r = x at *
  go_enter Try.func32, Try.ntmps32
  go_wp2
  go_ret
  exact ⟨rfl, rfl⟩

theorem oLt {s t : Bool} {r q : Nat} (hr : r ≤ INF) (hq : q ≤ INF) (h : sv s r < sv t q) : FloatKind.f64.format.order (W s r) (W t q) = some .lt := (order_W s t hr hq).trans (congrArg some (cmp_lt h))
theorem oGt {s t : Bool} {r q : Nat} (hr : r ≤ INF) (hq : q ≤ INF) (h : sv t q < sv s r) : FloatKind.f64.format.order (W s r) (W t q) = some .gt := (order_W s t hr hq).trans (congrArg some (cmp_gt h))
theorem oEq {s t : Bool} {r q : Nat} (hr : r ≤ INF) (hq : q ≤ INF) (h : sv s r = sv t q) : FloatKind.f64.format.order (W s r) (W t q) = some .eq := (order_W s t hr hq).trans (congrArg some (cmp_eq h))
/-- Two numbers that are not negative. -/
theorem pLt {r q : Nat} (hq : q ≤ INF) (h : r < q) : FloatKind.f64.format.order (W false r) q = some .lt := oLt (s := false) (t := false) (Nat.le_of_lt (Nat.lt_of_lt_of_le h hq)) hq (by rw [sv_false, sv_false]; exact Int.ofNat_lt.2 (V_lt h))
theorem pGt {r q : Nat} (hr : r ≤ INF) (h : q < r) : FloatKind.f64.format.order (W false r) q = some .gt := oGt (s := false) (t := false) hr (Nat.le_of_lt (Nat.lt_of_lt_of_le h hr)) (by rw [sv_false, sv_false]; exact Int.ofNat_lt.2 (V_lt h))
theorem pEq {r : Nat} (hr : r ≤ INF) : FloatKind.f64.format.order (W false r) r = some .eq := oEq (s := false) (t := false) hr hr rfl
theorem satan (r : Nat) (hr : r ≤ INF) : ∃ u, u ≤ cPi2 ∧ ∀ w : World, Calls Try.prog 31 #[fl1 (W false r)] w fun e w' => e = .returned (fl1 (W false u)) ∧ w = w' := by
  have R : ∀ (op : BinOp) {x y r : Nat}, floatBits op .f64 x y = some r → ∀ w, (binOp op 22 (.float .f64 x) (.float .f64 y)).run Try.prog w = .ok (.float .f64 r) w := fun op x y r h w => run_float_arith w op 22 .f64 x y r h
  by_cases h1 : r ≤ c66
  · obtain ⟨s', r', hle, hs, X⟩ := xatan false r h1
    obtain rfl : s' = false := by rcases hs with h | h; exact h; exact h.1
    replace X := Lib.hid X
    have o : (FloatKind.f64.format.order (W false r) 4604119971053405471 == some .lt || FloatKind.f64.format.order (W false r) 4604119971053405471 == some .eq) = true := by
      rcases Nat.lt_or_ge r c66 with h | h
      · rw [pLt (q := c66) (by decide) h]; rfl
      · obtain rfl : r = c66 := Nat.le_antisymm h1 h
        rw [pEq (r := c66) (by decide)]; rfl
    refine ⟨r', Nat.le_trans hle (Nat.le_trans h1 (by decide)), fun w => ?_⟩
    clear h1 R hr hle hs
    go_enter Try.func31, Try.ntmps31
    go_wp2_with (go_at_call 32; refine (X.out _).mono ?_; rintro _ _ ⟨rfl, rfl⟩)
    go_ret
    exact ⟨rfl, rfl⟩
  · have o : (FloatKind.f64.format.order (W false r) 4604119971053405471 == some .lt || FloatKind.f64.format.order (W false r) 4604119971053405471 == some .eq) = false := by
      rw [pGt (q := c66) hr (Nat.lt_of_not_le h1)]; rfl
    by_cases h2 : r ≤ cTan
    · have o2 : (FloatKind.f64.format.order (W false r) 4612618744449965542 == some .gt) = false := by
        rcases Nat.lt_or_ge r cTan with h | h
        · rw [pLt (q := cTan) (by decide) h]; rfl
        · obtain rfl : r = cTan := Nat.le_antisymm h2 h
          rw [pEq (r := cTan) (by decide)]; rfl
      obtain ⟨a, b, s, d, g1, g2, g3, hd⟩ := mid (Nat.lt_of_not_le h1) h2
      replace g1 := R _ g1; replace g2 := R _ g2; replace g3 := R _ g3
      obtain ⟨s', r', hle, hs, X⟩ := xatan s d hd
      obtain ⟨v, u, k1, k2, hu⟩ := midEnd s' (Nat.le_trans hle hd)
      replace X := Lib.hid X
      replace k1 := R _ k1; replace k2 := R _ k2
      refine ⟨u, hu, fun w => ?_⟩
      clear h1 h2 hr hd R hle hs hu
      go_enter Try.func31, Try.ntmps31
      go_wp2_with (go_at_call 32; refine (X.out _).mono ?_; rintro _ _ ⟨rfl, rfl⟩)
      go_ret
      exact ⟨rfl, rfl⟩
    · have o2 : (FloatKind.f64.format.order (W false r) 4612618744449965542 == some .gt) = true := by
        rw [pGt (q := cTan) hr (Nat.lt_of_not_le h2)]; rfl
      obtain ⟨d, g1, hd⟩ := inv (Nat.lt_of_not_le h2) hr
      replace g1 := R _ g1
      obtain ⟨s', r', hle, hs, X⟩ := xatan false d hd
      obtain rfl : s' = false := by rcases hs with h | h; exact h; exact h.1
      obtain ⟨v, u, k1, k2, hu⟩ := great (Nat.le_trans hle hd)
      replace X := Lib.hid X
      replace k1 := R _ k1; replace k2 := R _ k2
      refine ⟨u, hu, fun w => ?_⟩
      clear h1 h2 hr hd R hle hs hu
      go_enter Try.func31, Try.ntmps31
      go_wp2_with (go_at_call 32; refine (X.out _).mono ?_; rintro _ _ ⟨rfl, rfl⟩)
      go_ret
      exact ⟨rfl, rfl⟩
end Go.Proofs.Ytdiadeebboojgaa.at
