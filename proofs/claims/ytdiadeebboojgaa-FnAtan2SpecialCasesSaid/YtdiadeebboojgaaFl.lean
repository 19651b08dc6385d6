/-
  Plain facts on float64 words: what they stand for, copying and turning the sign.
-/
import Derived.Laws.FloatArith
import Derived.Laws.BitsAllLaws
namespace Go.Proofs.Ytdiadeebboojgaa.fl
open Go

theorem fmt : FloatKind.f64.format = Ieee.double := rfl
theorem sw : Ieee.double.signWeight = 9223372036854775808 := by decide
theorem bin : Ieee.double.binade = 4503599627370496 := by decide
theorem inf : Ieee.double.infRung = 9218868437227405312 := by decide
theorem lp : Ieee.double.leastPlace = -1074 := by decide

/-- What a word stands for, by its sign and its rung. -/
theorem read_eq (x : Nat) : FloatKind.f64.format.read x =
    if x % 9223372036854775808 < 4503599627370496 then .number (x / 9223372036854775808 % 2 == 1) (x % 9223372036854775808) (-1074)
    else if x % 9223372036854775808 < 9218868437227405312 then
      .number (x / 9223372036854775808 % 2 == 1) (4503599627370496 + x % 9223372036854775808 % 4503599627370496) (-1074 + (x % 9223372036854775808 / 4503599627370496 - 1 : Nat))
    else if x % 9223372036854775808 = 9218868437227405312 then .infinity (x / 9223372036854775808 % 2 == 1)
    else .nan (x / 9223372036854775808 % 2 == 1) (x % 9223372036854775808 - 9218868437227405312) := by
  rw [fmt]
  unfold Ieee.Format.read
  simp only [sw, bin, inf, lp]

theorem order_self (x : Nat) : FloatKind.f64.format.order x x = some .eq ∨ FloatKind.f64.format.order x x = none := by
  unfold Ieee.Format.order
  cases FloatKind.f64.format.read x with
  | number s m p => left; simp [Ieee.Datum.order]
  | infinity s => left; simp [Ieee.Datum.order]
  | nan s f => right; simp [Ieee.Datum.order]

theorem zero_of (x : Nat) (hx : x < 18446744073709551616) (h : FloatKind.f64.format.order x 0 = some .eq) : x = 0 ∨ x = 9223372036854775808 := by
  unfold Ieee.Format.order at h
  rw [read_eq 0, read_eq x] at h
  simp only [Nat.zero_mod, Nat.zero_div] at h
  rw [if_pos (by omega : (0 : Nat) < 4503599627370496)] at h
  by_cases h1 : x % 9223372036854775808 < 4503599627370496
  · rw [if_pos h1] at h
    have hm : x % 9223372036854775808 = 0 := by
      simp only [Ieee.Datum.order, Option.some.injEq, Ieee.signed] at h
      have h2 := Int.compare_eq_eq.1 h
      simp at h2
      split at h2 <;> omega
    omega
  · rw [if_neg h1] at h
    by_cases h2 : x % 9223372036854775808 < 9218868437227405312
    · rw [if_pos h2] at h
      exfalso
      simp only [Ieee.Datum.order, Option.some.injEq, Ieee.signed] at h
      have h3 := Int.compare_eq_eq.1 h
      generalize (-1074 + ((x % 9223372036854775808 / 4503599627370496 - 1 : Nat) : Int)) = p at h3
      simp only [Nat.zero_shiftLeft, Int.natCast_zero, Int.neg_zero, ite_self] at h3
      have h4 : (4503599627370496 + x % 9223372036854775808 % 4503599627370496) <<< (p - min p (-1074)).toNat = 0 := by
        split at h3 <;> omega
      rw [Nat.shiftLeft_eq] at h4
      have h5 := Nat.two_pow_pos (p - min p (-1074)).toNat
      rcases Nat.mul_eq_zero.1 h4 with h6 | h6 <;> omega
    · rw [if_neg h2] at h
      exfalso
      split at h <;> simp [Ieee.Datum.order] at h
      split at h <;> simp at h

theorem div_zero : floatBits .quo .f64 4607182418800017408 0 = some 9218868437227405312 := by decide +kernel
theorem div_nzero : floatBits .quo .f64 4607182418800017408 9223372036854775808 = some 18442240474082181120 := by decide +kernel
theorem inf_pos : (FloatKind.f64.format.order 9218868437227405312 0 == some .lt) = false := by decide +kernel
theorem inf_neg : (FloatKind.f64.format.order 18442240474082181120 0 == some .lt) = true := by decide +kernel

theorem mod_and (x : Nat) : x &&& 9223372036854775807 = x % 9223372036854775808 := Nat.and_two_pow_sub_one_eq_mod x 63
theorem sign_and (x : Nat) (h : x < 18446744073709551616) : x &&& 9223372036854775808 = x / 9223372036854775808 * 9223372036854775808 := by
  have := nat_bit 63 x
  rw [show (2 : Nat) ^ 63 = 9223372036854775808 by decide] at this
  rw [this, Nat.mod_eq_of_lt (by omega)]

/-- The magnitude of x with the sign of y. -/
def cs (x y : Nat) : Nat := x % 9223372036854775808 + y / 9223372036854775808 * 9223372036854775808

theorem copy_bits (x y : Nat) (hx : x < 18446744073709551616) (hy : y < 18446744073709551616) :
    bits .or .u64 (bits .andNot .u64 (x : Int) 9223372036854775808) (bits .and .u64 (y : Int) 9223372036854775808) = (cs x y : Int) := by
  have e1 := u64_andNot_nat x 9223372036854775808 hx (by omega)
  have e2 := u64_and_nat y 9223372036854775808 hy (by omega)
  simp only [Nat.reduceSub, mod_and, sign_and y hy] at e1 e2
  have c : ((9223372036854775808 : Nat) : Int) = 9223372036854775808 := rfl
  rw [c] at e1 e2
  rw [e1, e2, u64_or_nat _ _ (by omega) (by omega), Nat.or_comm, nat_join 63 _ _ (by omega) (by omega), Nat.add_comm]
  rfl
theorem abs_bits (x : Nat) (hx : x < 18446744073709551616) : bits .andNot .u64 (x : Int) 9223372036854775808 = (cs x 0 : Int) := by
  have e1 := u64_andNot_nat x 9223372036854775808 hx (by omega)
  simp only [Nat.reduceSub, mod_and] at e1
  have c : ((9223372036854775808 : Nat) : Int) = 9223372036854775808 := rfl
  rw [c] at e1
  rw [e1]; simp [cs]
theorem cs_lt (x y : Nat) (hy : y < 18446744073709551616) : cs x y < 18446744073709551616 := by unfold cs; omega
theorem cs_back (x y : Nat) (_hx : x < 18446744073709551616) : cs (cs x y) x = x := by unfold cs; omega
theorem cs_twice (x y : Nat) : cs (cs x y) y = cs x y := by unfold cs; omega
theorem cs_one (x : Nat) : cs x 4607182418800017408 = cs x 0 := by unfold cs; omega
theorem xor_top (a : Nat) (h : a < 2 ^ 63) : 2 ^ 63 ^^^ a = 2 ^ 63 ||| a := by
  apply Nat.eq_of_testBit_eq
  intro i
  rw [Nat.testBit_xor, Nat.testBit_or]
  by_cases hi : i = 63
  · subst hi
    rw [Nat.testBit_lt_two_pow h]; simp
  · rw [Nat.testBit_two_pow_of_ne (by omega)]; simp
theorem neg_abs (x : Nat) : Op.negFloat .f64 (cs x 0) = cs x 13830554455654793216 := by
  have h : Op.negFloat .f64 (cs x 0) = cs x 0 ^^^ 2 ^ 63 := rfl
  have hlt : x % 9223372036854775808 < 2 ^ 63 := Nat.mod_lt _ (by decide)
  rw [h]
  unfold cs
  simp only [Nat.zero_div, Nat.zero_mul, Nat.add_zero, Nat.reduceDiv, Nat.one_mul]
  rw [Nat.xor_comm, xor_top _ hlt]
  have := nat_join 63 (2 ^ 63) (x % 9223372036854775808) (by decide) hlt
  rw [this, Nat.add_comm]
end Go.Proofs.Ytdiadeebboojgaa.fl
