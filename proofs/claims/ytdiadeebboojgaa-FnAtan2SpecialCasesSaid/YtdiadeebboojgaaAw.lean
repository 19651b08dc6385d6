/-
  Go's Atan2, walked: what it gives on all doubles; the statement's own float helpers on signs and rungs.
-/
import Derived.Test.YtdiadeebboojgaaAv
import Derived.Test.YtdiadeebboojgaaFld
namespace Go.Proofs.Ytdiadeebboojgaa.at
open Go.ChangeShapes Go.WideShapes Go.ChangeAt Go.RowKit Go.Proofs.Ytdiadeebboojgaa.fl
set_option linter.unusedVariables false
set_option linter.unusedSimpArgs false
set_option maxRecDepth 100000
set_option maxHeartbeats 4000000
theorem W_lt (s : Bool) {r : Nat} (h : r ≤ INF) : W s r < 18446744073709551616 := by
  have : (INF : Nat) < 9223372036854775808 := by decide
  unfold W; cases s <;> simp <;> omega
theorem negW (s : Bool) {r : Nat} (h : r ≤ INF) : Op.negFloat .f64 (W s r) = W (!s) r := by
  have h0 : (INF : Nat) < 9223372036854775808 := by decide
  have hlt : r < 2 ^ 63 := by omega
  show W s r ^^^ 2 ^ 63 = _
  have j := nat_join 63 (2 ^ 63) r (by decide) hlt
  cases s with
  | false =>
    show r ^^^ 2 ^ 63 = 9223372036854775808 + r
    rw [Nat.xor_comm, xor_top _ hlt, j]
  | true =>
    show (9223372036854775808 + r) ^^^ 2 ^ 63 = r
    have e : (9223372036854775808 + r : Nat) = 2 ^ 63 ^^^ r := by rw [xor_top _ hlt, j]
    rw [e, Nat.xor_comm, ← Nat.xor_assoc, Nat.xor_self, Nat.zero_xor]
theorem csW (q : Nat) (s : Bool) {r : Nat} (hq : q < 9223372036854775808) (h : r ≤ INF) : cs q (W s r) = W s q := by
  have h0 : (INF : Nat) < 9223372036854775808 := by decide
  unfold cs W
  rw [Nat.mod_eq_of_lt hq]
  cases s with
  | false =>
    rw [if_neg (by decide), if_neg (by decide), Nat.div_eq_of_lt (by omega)]; omega
  | true =>
    rw [if_pos rfl, if_pos rfl]
    have : (9223372036854775808 + r) / 9223372036854775808 = 1 := by omega
    rw [this]; omega
theorem cs0W (s : Bool) {r : Nat} (h : r ≤ INF) : cs (W s r) 0 = W false r := by
  have h0 : (INF : Nat) < 9223372036854775808 := by decide
  unfold cs W
  cases s with
  | false => simp only [Bool.false_eq_true, if_false]; omega
  | true => simp only [Bool.false_eq_true, if_false, if_true]; omega
/-- Against nought. -/
theorem zEq (s : Bool) : FloatKind.f64.format.order (W s 0) 0 = some .eq := oEq (t := false) (q := 0) (by decide) (by decide) (by cases s <;> rfl)
theorem zGt {r : Nat} (hr : r ≤ INF) (h : 0 < r) : FloatKind.f64.format.order (W false r) 0 = some .gt := pGt hr h
theorem zLt {r : Nat} (hr : r ≤ INF) (h : 0 < r) : FloatKind.f64.format.order (W true r) 0 = some .lt := oLt (t := false) (q := 0) hr (by decide) (by
  have := V_lt h
  rw [sv_true, sv_false, V_zero] at *
  omega)
theorem selfEq (s : Bool) {r : Nat} (hr : r ≤ INF) : FloatKind.f64.format.order (W s r) (W s r) = some .eq := oEq hr hr rfl
theorem nanW (s : Bool) {r : Nat} (hr : r ≤ INF) : nanb (W s r) = false := by unfold nanb; rw [selfEq s hr]; rfl
theorem sbW (s : Bool) {r : Nat} (hr : r ≤ INF) : sb (W s r) = s := by
  unfold sb
  rcases Nat.eq_zero_or_pos r with rfl | h
  · rw [zEq]; cases s <;> rfl
  · cases s with
    | false => rw [zGt hr h]; rfl
    | true => rw [zLt hr h]; rfl
/-- A NaN has no order. -/
def NaNW (x : Nat) : Prop := ∀ y, FloatKind.f64.format.order x y = none
theorem NaNW.nan {x : Nat} (h : NaNW x) : nanb x = true := by unfold nanb; rw [h x]; rfl
theorem nan_of {x : Nat} {s : Bool} {f : Nat} (h : FloatKind.f64.format.read x = .nan s f) : NaNW x := fun y => by
  show (FloatKind.f64.format.read x).order (FloatKind.f64.format.read y) = none
  rw [h]
  cases FloatKind.f64.format.read y <;> rfl
theorem words (x : Nat) (h : x < 18446744073709551616) : (∃ s r, r ≤ INF ∧ x = W s r) ∨ NaNW x := by
  have h0 : (INF : Nat) = 9218868437227405312 := rfl
  by_cases hr : x % 9223372036854775808 ≤ INF
  · refine Or.inl ⟨decide (9223372036854775808 ≤ x), _, hr, ?_⟩
    unfold W
    by_cases h1 : 9223372036854775808 ≤ x
    · rw [if_pos (by simpa using h1)]; omega
    · rw [if_neg (by simpa using h1)]; omega
  · refine Or.inr (nan_of (s := (x / 9223372036854775808 % 2 == 1)) (f := x % 9223372036854775808 - 9218868437227405312) ?_)
    rw [read_eq, if_neg (by omega), if_neg (by omega), if_neg (by omega)]
theorem nan_made (t : Nat) : NaNW ((t % 2) * 2 ^ 63 + 0x7ff0000000000000 + 1 + (t / 2) % (2 ^ 52 - 1)) := by
  rcases words ((t % 2) * 2 ^ 63 + 0x7ff0000000000000 + 1 + (t / 2) % (2 ^ 52 - 1)) (by omega) with ⟨s, r, hr, e⟩ | h
  · exfalso
    have h0 : (INF : Nat) = 9218868437227405312 := rfl
    unfold W at e
    cases s with
    | false => rw [if_neg (by decide)] at e; omega
    | true => rw [if_pos rfl] at e; omega
  · exact h
/-- Atan. -/
theorem atan30 (s : Bool) (r : Nat) (hr : r ≤ INF) : ∃ u, u ≤ cPi2 ∧ ∀ w : World, Calls Try.prog 30 #[fl1 (W s r)] w fun e w' => e = .returned (fl1 (W s u)) ∧ w = w' := by
  rcases Nat.eq_zero_or_pos r with rfl | h
  · have o : (FloatKind.f64.format.order (W s 0) 0 == some .eq) = true := by rw [zEq]; rfl
    refine ⟨0, Nat.zero_le _, fun w => ?_⟩
    go_enter Try.func30, Try.ntmps30
    go_wp2
    go_ret
    exact ⟨rfl, rfl⟩
  · obtain ⟨u, hu, X⟩ := satan r hr
    refine ⟨u, hu, fun w => ?_⟩
    replace X := Lib.hid X
    cases s with
    | false =>
      have o1 : (FloatKind.f64.format.order (W false r) 0 == some .eq) = false := by rw [zGt hr h]; rfl
      have o2 : (FloatKind.f64.format.order (W false r) 0 == some .gt) = true := by rw [zGt hr h]; rfl
      clear h hu
      go_enter Try.func30, Try.ntmps30
      go_wp2_with (go_at_call 31; refine (X.out _).mono ?_; rintro _ _ ⟨rfl, rfl⟩)
      go_ret
      exact ⟨rfl, rfl⟩
    | true =>
      have o1 : (FloatKind.f64.format.order (W true r) 0 == some .eq) = false := by rw [zLt hr h]; rfl
      have o2 : (FloatKind.f64.format.order (W true r) 0 == some .gt) = false := by rw [zLt hr h]; rfl
      have n1 : Op.negFloat .f64 (W true r) = W false r := negW true hr
      have n2 : Op.negFloat .f64 (W false u) = W true u := negW false (Nat.le_trans hu (by decide))
      clear h hu
      go_enter Try.func30, Try.ntmps30
      go_wp2_with (go_at_call 31; refine (X.out _).mono ?_; rintro _ _ ⟨rfl, rfl⟩)
      go_ret
      exact ⟨by simp [n2], rfl⟩
theorem atan28 (s : Bool) (r : Nat) (hr : r ≤ INF) : ∃ u, u ≤ cPi2 ∧ ∀ w : World, Calls Try.prog 28 #[fl1 (W s r)] w fun e w' => e = .returned (fl1 (W s u)) ∧ w = w' := by
  obtain ⟨u, hu, X⟩ := atan30 s r hr
  refine ⟨u, hu, fun w => ?_⟩
  replace X := Lib.hid X
  go_enter Try.func28, Try.ntmps28
  go_wp2_with (go_at_call 30; refine (X.out _).mono ?_; rintro _ _ ⟨rfl, rfl⟩)
  go_ret
  exact ⟨rfl, rfl⟩
end Go.Proofs.Ytdiadeebboojgaa.at
