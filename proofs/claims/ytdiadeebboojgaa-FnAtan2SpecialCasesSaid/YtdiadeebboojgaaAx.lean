/-
  Go's Atan2, walked: the small functions of package math.
-/
import Derived.Test.YtdiadeebboojgaaAw
namespace Go.Proofs.Ytdiadeebboojgaa.at
open Go.ChangeShapes Go.WideShapes Go.ChangeAt Go.RowKit Go.Proofs.Ytdiadeebboojgaa.fl
set_option linter.unusedVariables false
set_option linter.unusedSimpArgs false
set_option maxRecDepth 100000
set_option maxHeartbeats 4000000
theorem copy17 (q : Nat) (s : Bool) (r : Nat) (hq : q < 9223372036854775808) (hr : r ≤ INF) (w : World) : Calls Try.prog 17 #[fl1 q, fl1 (W s r)] w fun e w' => e = .returned (fl1 (W s q)) ∧ w = w' := by
  have h1 := fbits
  have h2 := ffrom
  have h3 := copy_bits q (W s r) (by omega) (W_lt s hr)
  have h4 := csW q s hq hr
  clear hq hr
  generalize W s r = x at *
  go_enter Try.func17, Try.ntmps17
  go_wp2
  go_ret
  exact ⟨by simp [h4], rfl⟩
theorem isnan24 (x : Nat) (w : World) : Calls Try.prog 24 #[fl1 x] w fun e w' => e = .returned (.bool (nanb x)) ∧ w = w' := by
  go_enter Try.func24, Try.ntmps24
  go_wp2
  go_ret
  exact ⟨rfl, rfl⟩
theorem nan25 (w : World) : Calls Try.prog 25 #[] w fun e w' => e = .returned (fl1 9221120237041090561) ∧ w = w' := by
  have h2 := ffrom
  go_enter Try.func25, Try.ntmps25
  go_wp2
  go_ret
  exact ⟨rfl, rfl⟩
theorem sign26 (s : Bool) (r : Nat) (hr : r ≤ INF) (w : World) : Calls Try.prog 26 #[fl1 (W s r)] w fun e w' => e = .returned (.bool s) ∧ w = w' := by
  have h1 := fbits
  have h0 : (INF : Nat) < 9223372036854775808 := by decide
  cases s with
  | false =>
    have e : W false r = r := rfl
    rw [e]
    have hlt : r < 9223372036854775808 := by omega
    clear hr h0 e
    go_enter Try.func26, Try.ntmps26
    go_wp2
    go_ret
    exact ⟨rfl, rfl⟩
  | true =>
    have e : W true r = 9223372036854775808 + r := rfl
    rw [e]
    have hlt : r < 9223372036854775808 := by omega
    clear hr h0 e
    go_enter Try.func26, Try.ntmps26
    go_wp2
    go_ret
    have : wrap64 (9223372036854775808 + (r : Int)) < 0 := by unfold wrap64; omega
    exact ⟨by simp [this], rfl⟩
theorem inf27 (s : Bool) (r : Nat) (hr : r ≤ INF) (w : World) : Calls Try.prog 27 #[fl1 (W s r), .int .i64 0] w fun e w' => e = .returned (.bool (decide (r = INF))) ∧ w = w' := by
  have h1 := fbits
  have h2 := ffrom
  have h3 := abs_bits (W s r) (W_lt s hr)
  have h4 := cs0W s hr
  have o : (FloatKind.f64.format.order (W false r) 9218868437227405311 == some .gt) = decide (r = INF) := by
    by_cases e : r = INF
    · rw [pGt (q := 9218868437227405311) hr (by rw [e]; decide)]; simp [e]
    · rcases Nat.lt_or_ge r 9218868437227405311 with h | h
      · rw [pLt (q := 9218868437227405311) (by decide) h]; simp [e]
      · obtain rfl : r = 9218868437227405311 := by
          have : (INF : Nat) = 9218868437227405312 := rfl
          omega
        rw [pEq (r := 9218868437227405311) (by decide)]; simp [e]
  rw [h4] at h3
  go_enter Try.func27, Try.ntmps27
  go_wp2_with (first | (go_at_call 18; go_in))
  go_ret
  exact ⟨by simp [o], rfl⟩
theorem pinf27 (s : Bool) (r : Nat) (hr : r ≤ INF) (w : World) : Calls Try.prog 27 #[fl1 (W s r), .int .i64 1] w fun e w' => e = .returned (.bool (!s && decide (r = INF))) ∧ w = w' := by
  have o : (FloatKind.f64.format.order (W s r) 9218868437227405311 == some .gt) = (!s && decide (r = INF)) := by
    cases s with
    | true =>
      have o : FloatKind.f64.format.order (W true r) 9218868437227405311 = some .lt := oLt (t := false) (q := 9218868437227405311) hr (by decide) (by
        have := V_lt (show 0 < 9218868437227405311 by decide)
        rw [sv_true, sv_false]
        rw [V_zero] at this
        omega)
      rw [o]; rfl
    | false =>
      by_cases e : r = INF
      · rw [pGt (q := 9218868437227405311) hr (by rw [e]; decide)]; simp [e]
      · rcases Nat.lt_or_ge r 9218868437227405311 with h | h
        · rw [pLt (q := 9218868437227405311) (by decide) h]; simp [e]
        · obtain rfl : r = 9218868437227405311 := by
            have : (INF : Nat) = 9218868437227405312 := rfl
            omega
          rw [pEq (r := 9218868437227405311) (by decide)]; simp [e]
  go_enter Try.func27, Try.ntmps27
  go_wp2
  go_ret
  exact ⟨by simp [o], rfl⟩
end Go.Proofs.Ytdiadeebboojgaa.at
