/-
  Doubles that are not negative: their values in units of the least one, and what rounding does to order.
-/
import Ieee.Arith
namespace Go.Proofs.Ytdiadeebboojgaa.at
set_option linter.unusedVariables false
set_option linter.unusedSimpArgs false
/-- The value of rung r in units of the least positive double. -/
def V (r : Nat) : Nat := if r < 2 ^ 52 then r else (2 ^ 52 + r % 2 ^ 52) * 2 ^ (r / 2 ^ 52 - 1)
theorem V_of (e k : Nat) (h : (e = 0 ∧ k ≤ 2 ^ 53) ∨ (2 ^ 52 ≤ k ∧ k ≤ 2 ^ 53)) : V (e * 2 ^ 52 + k) = k * 2 ^ e := by
  unfold V
  by_cases h1 : k < 2 ^ 52
  · have e0 : e = 0 := by omega
    subst e0
    rw [if_pos (by omega)]
    simp
  · rw [if_neg (by omega)]
    by_cases h2 : k < 2 ^ 53
    · have a : (e * 2 ^ 52 + k) % 2 ^ 52 = k - 2 ^ 52 := by omega
      have b : (e * 2 ^ 52 + k) / 2 ^ 52 = e + 1 := by omega
      rw [a, b]
      have c : 2 ^ 52 + (k - 2 ^ 52) = k := by omega
      rw [c, Nat.add_sub_cancel]
    · have hk : k = 2 ^ 53 := by omega
      subst hk
      have a : (e * 2 ^ 52 + 2 ^ 53) % 2 ^ 52 = 0 := by omega
      have b : (e * 2 ^ 52 + 2 ^ 53) / 2 ^ 52 = e + 2 := by omega
      rw [a, b]
      rw [show e + 2 - 1 = e + 1 by omega, Nat.pow_succ]
      omega
theorem V_step (r : Nat) : V r < V (r + 1) := by
  by_cases h : r < 2 ^ 52
  · have a := V_of 0 r (Or.inl ⟨rfl, by omega⟩)
    have b := V_of 0 (r + 1) (Or.inl ⟨rfl, by omega⟩)
    simp at a b
    omega
  · have hd : r / 2 ^ 52 ≥ 1 := by omega
    obtain ⟨e, he⟩ : ∃ e, r / 2 ^ 52 = e + 1 := ⟨r / 2 ^ 52 - 1, by omega⟩
    have a := V_of e (2 ^ 52 + r % 2 ^ 52) (Or.inr ⟨by omega, by omega⟩)
    have b := V_of e (2 ^ 52 + r % 2 ^ 52 + 1) (Or.inr ⟨by omega, by omega⟩)
    rw [show e * 2 ^ 52 + (2 ^ 52 + r % 2 ^ 52) = r by omega] at a
    rw [show e * 2 ^ 52 + (2 ^ 52 + r % 2 ^ 52 + 1) = r + 1 by omega] at b
    rw [a, b, Nat.add_mul (2 ^ 52 + r % 2 ^ 52) 1]
    have := Nat.two_pow_pos e
    omega
theorem V_lt {r s : Nat} (h : r < s) : V r < V s := by
  induction s with
  | zero => omega
  | succ s ih =>
    by_cases e : r = s
    · subst e; exact V_step r
    · exact Nat.lt_trans (ih (by omega)) (V_step s)
theorem V_le {r s : Nat} (h : r ≤ s) : V r ≤ V s := by
  by_cases e : r = s
  · subst e; exact Nat.le_refl _
  · exact Nat.le_of_lt (V_lt (by omega))
theorem le_of_V {r s : Nat} (h : V r ≤ V s) : r ≤ s := by
  by_cases e : r ≤ s
  · exact e
  · have := V_lt (show s < r by omega); omega
theorem lt_of_V {r s : Nat} (h : V r < V s) : r < s := by
  by_cases e : r < s
  · exact e
  · have := V_le (show s ≤ r by omega); omega
theorem V_zero : V 0 = 0 := rfl
/-- Rounding to a whole number keeps to the side of every whole number. -/
theorem cut_le (neg : Bool) (n d K : Nat) (h : n ≤ K * 2 ^ d) : Ieee.Toward.even.cut neg n d ≤ K := by
  unfold Ieee.Toward.cut
  simp only [Nat.one_shiftLeft]
  by_cases hd : d ≤ n.log2 + 2
  · rw [Nat.min_eq_left hd]
    have hp := Nat.two_pow_pos d
    generalize 2 ^ d = g at *
    have hdm := Nat.div_add_mod n g
    have hm := Nat.mod_lt n hp
    generalize n / g = q at *
    generalize n % g = r at *
    by_cases hq : q < K
    · cases (decide (g < 2 * r) || g == 2 * r && q % 2 == 1) <;> simp <;> omega
    · have hK : K ≤ q := by omega
      have h2 : K * g ≤ g * q := by rw [Nat.mul_comm g q]; exact Nat.mul_le_mul_right g hK
      have hr : r = 0 := by omega
      have hqK : q = K := by
        have h3 : g * q = K * g := by omega
        have : g * q = g * K := by rw [h3, Nat.mul_comm]
        exact Nat.eq_of_mul_eq_mul_left hp this
      subst hr
      have e : (decide (g < 2 * 0) || g == 2 * 0 && q % 2 == 1) = false := by
        have : ¬ g < 2 * 0 := by omega
        have : (g == 2 * 0) = false := by simp; omega
        simp_all
      rw [e]
      simp [hqK]
  · rw [Nat.min_eq_right (by omega)]
    have hn : n < 2 ^ (n.log2 + 1) := Nat.lt_log2_self
    have hp : 2 ^ (n.log2 + 2) = 2 * 2 ^ (n.log2 + 1) := by rw [Nat.pow_succ]; omega
    rw [hp]
    generalize 2 ^ (n.log2 + 1) = g at *
    have a : n / (2 * g) = 0 := Nat.div_eq_of_lt (by omega)
    have b : n % (2 * g) = n := Nat.mod_eq_of_lt (by omega)
    rw [a, b]
    have c : ¬ 2 * g < 2 * n := by omega
    have c2 : (2 * g == 2 * n) = false := by simp; omega
    simp [c, c2]
theorem cut_half (neg : Bool) (n d k : Nat) (h : 2 * n < (2 * k + 1) * 2 ^ d) : Ieee.Toward.even.cut neg n d ≤ k := by
  unfold Ieee.Toward.cut
  simp only [Nat.one_shiftLeft]
  by_cases hd : d ≤ n.log2 + 2
  · rw [Nat.min_eq_left hd]
    have hp := Nat.two_pow_pos d
    generalize 2 ^ d = g at *
    have hdm := Nat.div_add_mod n g
    have hm := Nat.mod_lt n hp
    generalize n / g = q at *
    generalize n % g = r at *
    rw [Nat.add_mul, Nat.one_mul] at h
    by_cases hq : q < k
    · cases (decide (g < 2 * r) || g == 2 * r && q % 2 == 1) <;> simp <;> omega
    · have hK : k ≤ q := by omega
      have h2 : k * g ≤ q * g := Nat.mul_le_mul_right g hK
      have h3 : 2 * k * g = 2 * (k * g) := Nat.mul_assoc _ _ _
      have h4 : g * q = q * g := Nat.mul_comm _ _
      have hqK : q ≤ k := by
        refine Nat.le_of_not_lt fun hlt => ?_
        have h5 : (k + 1) * g ≤ q * g := Nat.mul_le_mul_right g hlt
        rw [Nat.add_mul, Nat.one_mul] at h5
        omega
      have hqk : q = k := by omega
      subst hqk
      have c : ¬ g < 2 * r := by omega
      have c2 : (g == 2 * r) = false := by simp; omega
      simp [c, c2]
  · rw [Nat.min_eq_right (by omega)]
    have hn : n < 2 ^ (n.log2 + 1) := Nat.lt_log2_self
    have hp : 2 ^ (n.log2 + 2) = 2 * 2 ^ (n.log2 + 1) := by rw [Nat.pow_succ]; omega
    rw [hp]
    generalize 2 ^ (n.log2 + 1) = g at *
    have a : n / (2 * g) = 0 := Nat.div_eq_of_lt (by omega)
    have b : n % (2 * g) = n := Nat.mod_eq_of_lt (by omega)
    rw [a, b]
    have c : ¬ 2 * g < 2 * n := by omega
    have c2 : (2 * g == 2 * n) = false := by simp; omega
    simp [c, c2]
theorem le_cut (neg : Bool) (n d K : Nat) (h : K * 2 ^ d ≤ n) : K ≤ Ieee.Toward.even.cut neg n d := by
  unfold Ieee.Toward.cut
  simp only [Nat.one_shiftLeft]
  by_cases hd : d ≤ n.log2 + 2
  · rw [Nat.min_eq_left hd]
    have hp := Nat.two_pow_pos d
    have : K ≤ n / 2 ^ d := (Nat.le_div_iff_mul_le hp).2 h
    exact Nat.le_trans this (Nat.le_add_right _ _)
  · have hn : n < 2 ^ (n.log2 + 1) := Nat.lt_log2_self
    have h2 : 2 ^ (n.log2 + 1) ≤ 2 ^ d := Nat.pow_le_pow_right (by omega) (by omega)
    have hK : K = 0 := by
      by_cases e : K = 0
      · exact e
      · have : 1 * 2 ^ d ≤ K * 2 ^ d := Nat.mul_le_mul_right _ (by omega)
        omega
    rw [hK]
    exact Nat.zero_le _
abbrev F : Ieee.Format := Ieee.double
theorem fb : F.fractionBits = 52 := rfl
theorem lp : F.leastPlace = -1074 := by decide
theorem bin : F.binade = 2 ^ 52 := rfl
theorem inf : F.infRung = 9218868437227405312 := by decide
/-- The word of a number that is not negative. -/
def nr (mag : Nat) (place : Int) : Nat := F.nearest false mag place
theorem cut_neg (neg : Bool) (n d : Nat) : Ieee.Toward.even.cut neg n d = Ieee.Toward.even.cut false n d := by
  unfold Ieee.Toward.cut
  simp only
theorem word_false (x : Nat) : F.word false x = x := by
  unfold Ieee.Format.word
  rw [if_neg (by decide)]
theorem nearest_word (neg : Bool) (mag : Nat) (place : Int) : F.nearest neg mag place = F.word neg (nr mag place) := by
  unfold nr Ieee.Format.nearest
  by_cases h : mag = 0
  · rw [if_pos h, if_pos h, word_false]
  · rw [if_neg h, if_neg h, word_false]
    simp only [cut_neg neg]
theorem pow_move {A B a b c d e : Nat} (h : a + d = b + c + e) : A * 2 ^ a ≤ B * 2 ^ e * 2 ^ b ↔ A * 2 ^ c ≤ B * 2 ^ d := by
  have hd := Nat.two_pow_pos d
  have hbe := Nat.two_pow_pos (b + e)
  constructor
  · intro h1
    have h2 := Nat.mul_le_mul_right (2 ^ d) h1
    rw [Nat.mul_assoc, ← Nat.pow_add, Nat.mul_assoc B, ← Nat.pow_add, Nat.mul_assoc B, ← Nat.pow_add] at h2
    rw [show a + d = c + (b + e) by omega, show e + b + d = d + (b + e) by omega, Nat.pow_add, Nat.pow_add 2 d, ← Nat.mul_assoc, ← Nat.mul_assoc] at h2
    exact Nat.le_of_mul_le_mul_right h2 hbe
  · intro h1
    have h2 := Nat.mul_le_mul_right (2 ^ (b + e)) h1
    rw [Nat.mul_assoc, ← Nat.pow_add, Nat.mul_assoc B, ← Nat.pow_add] at h2
    rw [show c + (b + e) = a + d by omega, show d + (b + e) = e + b + d by omega, Nat.pow_add, Nat.pow_add 2 (e + b) d, ← Nat.mul_assoc, ← Nat.mul_assoc] at h2
    have h3 := Nat.le_of_mul_le_mul_right h2 hd
    rw [Nat.pow_add, ← Nat.mul_assoc] at h3
    exact h3
theorem pow_move' {A B a b c d e : Nat} (h : a + d = b + c + e) : B * 2 ^ e * 2 ^ b ≤ A * 2 ^ a ↔ B * 2 ^ d ≤ A * 2 ^ c := by
  have := pow_move (A := B) (B := A) (a := e + b) (b := 0) (c := d) (d := c) (e := a) (by omega)
  rw [Nat.pow_zero, Nat.mul_one, Nat.pow_add, ← Nat.mul_assoc] at this
  exact this
/-- The rung of a number, its digits kept and their place. -/
theorem nr_eq {mag : Nat} (p : Int) (hm : mag ≠ 0) : ∃ e K c d : Nat, nr mag p = min (e * 2 ^ 52 + K) 9218868437227405312 ∧ (p + 1074).toNat + d = (-1074 - p).toNat + c + e ∧
    ((e = 0 ∧ K ≤ 2 ^ 53) ∨ (2 ^ 52 ≤ K ∧ K ≤ 2 ^ 53)) ∧ (e = 0 ∨ 2 ^ 52 * 2 ^ d ≤ mag * 2 ^ c) ∧ mag * 2 ^ c < 2 ^ 53 * 2 ^ d ∧ (∀ k, 2 * (mag * 2 ^ c) < (2 * k + 1) * 2 ^ d → K ≤ k) ∧ (∀ k, k * 2 ^ d ≤ mag * 2 ^ c → k ≤ K) := by
  have hl := Nat.log2_self_le hm
  have hu : mag < 2 ^ (mag.log2 + 1) := Nat.lt_log2_self
  obtain ⟨last, hlast⟩ : ∃ l : Int, max (p + mag.log2 - 52) (-1074) = l := ⟨_, rfl⟩
  have hc : ∀ k, mag * 2 ^ (p - last).toNat ≤ k * 2 ^ (last - p).toNat → Ieee.Toward.even.cut false (mag <<< (p - last).toNat) (last - p).toNat ≤ k := fun k h => cut_le _ _ _ _ (by rw [Nat.shiftLeft_eq]; exact h)
  have hh : ∀ k, 2 * (mag * 2 ^ (p - last).toNat) < (2 * k + 1) * 2 ^ (last - p).toNat → Ieee.Toward.even.cut false (mag <<< (p - last).toNat) (last - p).toNat ≤ k := fun k h => cut_half _ _ _ _ (by rw [Nat.shiftLeft_eq]; exact h)
  have hc' : ∀ k, k * 2 ^ (last - p).toNat ≤ mag * 2 ^ (p - last).toNat → k ≤ Ieee.Toward.even.cut false (mag <<< (p - last).toNat) (last - p).toNat := fun k h => le_cut _ _ _ _ (by rw [Nat.shiftLeft_eq]; exact h)
  refine ⟨(last + 1074).toNat, Ieee.Toward.even.cut false (mag <<< (p - last).toNat) (last - p).toNat, (p - last).toNat, (last - p).toNat, ?_, by omega, ?_, ?_, ?_, hh, hc'⟩
  · unfold nr Ieee.Format.nearest
    rw [if_neg hm, word_false]
    simp only [fb, lp, bin, inf]
    rw [show ((52 : Nat) : Int) = 52 from rfl, hlast, show last - -1074 = last + 1074 by omega]
  · have h53 : Ieee.Toward.even.cut false (mag <<< (p - last).toNat) (last - p).toNat ≤ 2 ^ 53 := by
      refine hc _ ?_
      rw [← Nat.pow_add]
      refine Nat.le_trans (Nat.mul_le_mul_right _ (Nat.le_of_lt hu)) ?_
      rw [← Nat.pow_add]
      exact Nat.pow_le_pow_right (by omega) (by omega)
    by_cases e0 : (last + 1074).toNat = 0
    · exact Or.inl ⟨e0, h53⟩
    · refine Or.inr ⟨hc' _ ?_, h53⟩
      rw [← Nat.pow_add]
      refine Nat.le_trans ?_ (Nat.mul_le_mul_right _ hl)
      rw [← Nat.pow_add]
      exact Nat.pow_le_pow_right (by omega) (by omega)
  · by_cases e0 : (last + 1074).toNat = 0
    · exact Or.inl e0
    · refine Or.inr ?_
      rw [← Nat.pow_add]
      refine Nat.le_trans ?_ (Nat.mul_le_mul_right _ hl)
      rw [← Nat.pow_add]
      exact Nat.pow_le_pow_right (by omega) (by omega)
  · refine Nat.lt_of_lt_of_le (Nat.mul_lt_mul_of_pos_right hu (Nat.two_pow_pos _)) ?_
    rw [← Nat.pow_add, ← Nat.pow_add]
    exact Nat.pow_le_pow_right (by omega) (by omega)
theorem nr_mid {mag : Nat} {p : Int} {t : Nat} (h : 2 * (mag * 2 ^ (p + 1074).toNat) < (V t + V (t + 1)) * 2 ^ (-1074 - p).toNat) : nr mag p ≤ t := by
  by_cases hm : mag = 0
  · subst hm
    have : nr 0 p = 0 := by unfold nr Ieee.Format.nearest; rw [if_pos rfl, word_false]
    omega
  obtain ⟨e, K, c, d, h1, h2, h3, h3a, h3b, h4, h5⟩ := nr_eq p hm
  have h6 : e * 2 ^ 52 + K ≤ t := by
    refine Nat.le_of_not_lt fun hlt => ?_
    by_cases hK : (e = 0 ∧ 1 ≤ K) ∨ 2 ^ 52 < K
    · have hv := V_of e (K - 1) (by omega)
      have hv' := V_of e K h3
      have hle : V t ≤ V (e * 2 ^ 52 + (K - 1)) := V_le (by omega)
      have hle' : V (t + 1) ≤ V (e * 2 ^ 52 + K) := V_le (by omega)
      rw [hv] at hle
      rw [hv'] at hle'
      have hsum : V t + V (t + 1) ≤ (2 * (K - 1) + 1) * 2 ^ e := by
        have : (2 * (K - 1) + 1) * 2 ^ e = (K - 1) * 2 ^ e + K * 2 ^ e := by
          rw [← Nat.add_mul]; congr 1; omega
        omega
      have h7 : 2 * mag * 2 ^ (p + 1074).toNat < (2 * (K - 1) + 1) * 2 ^ e * 2 ^ (-1074 - p).toNat := by
        rw [Nat.mul_assoc]
        exact Nat.lt_of_lt_of_le h (Nat.mul_le_mul_right _ hsum)
      have h8 := h4 (K - 1) (by
        refine Nat.lt_of_not_le fun hn => ?_
        rw [← Nat.mul_assoc] at hn
        exact Nat.lt_irrefl _ (Nat.lt_of_lt_of_le h7 ((pow_move' h2).2 hn)))
      omega
    · by_cases hK0 : K = 0
      · omega
      · have hKe : K = 2 ^ 52 := by omega
        have hv := V_of e K h3
        have hlt' : V (t + 1) ≤ V (e * 2 ^ 52 + K) := V_le (by omega)
        rw [hv, hKe] at hlt'
        have h8 := h3a.resolve_left (by omega)
        have h9 := (pow_move' h2).2 h8
        have hs := V_step t
        have h10 := Nat.mul_le_mul_right (2 ^ (-1074 - p).toNat) hlt'
        have h11 := Nat.mul_lt_mul_of_pos_right hs (Nat.two_pow_pos (-1074 - p).toNat)
        rw [Nat.add_mul] at h
        omega
  rw [h1]
  exact Nat.le_trans (Nat.min_le_left _ _) h6
theorem nr_le {mag : Nat} {p : Int} {t : Nat} (h : mag * 2 ^ (p + 1074).toNat ≤ V t * 2 ^ (-1074 - p).toNat) : nr mag p ≤ t := by
  refine nr_mid ?_
  have := Nat.mul_lt_mul_of_pos_right (V_step t) (Nat.two_pow_pos (-1074 - p).toNat)
  rw [Nat.add_mul]
  omega
theorem nr_inf (mag : Nat) (p : Int) : nr mag p ≤ 9218868437227405312 := by
  by_cases hm : mag = 0
  · subst hm
    have : nr 0 p = 0 := by unfold nr Ieee.Format.nearest; rw [if_pos rfl, word_false]
    omega
  obtain ⟨e, K, c, d, h1, -⟩ := nr_eq p hm
  rw [h1]
  exact Nat.min_le_right _ _
theorem nr_zero (p : Int) : nr 0 p = 0 := by unfold nr Ieee.Format.nearest; rw [if_pos rfl, word_false]
theorem le_nr {mag : Nat} {p : Int} {t : Nat} (ht : t ≤ 9218868437227405312) (h : V t * 2 ^ (-1074 - p).toNat ≤ mag * 2 ^ (p + 1074).toNat) : t ≤ nr mag p := by
  by_cases hm : mag = 0
  · subst hm
    rw [Nat.zero_mul] at h
    have h0 : V t = 0 := by
      have := Nat.two_pow_pos (-1074 - p).toNat
      rcases Nat.mul_eq_zero.1 (Nat.le_zero.1 h) with h | h
      · exact h
      · omega
    have : t ≤ 0 := le_of_V (by rw [h0]; exact Nat.zero_le _)
    omega
  obtain ⟨e, K, c, d, h1, h2, h3, h3a, h3b, h4, h5⟩ := nr_eq p hm
  have h6 : t ≤ e * 2 ^ 52 + K := by
    refine Nat.le_of_not_lt fun hlt => ?_
    by_cases hK : K < 2 ^ 53
    · have hv := V_of e (K + 1) (by omega)
      have hle : V (e * 2 ^ 52 + (K + 1)) ≤ V t := V_le (by omega)
      rw [hv] at hle
      have := h5 _ ((pow_move' h2).1 (Nat.le_trans (Nat.mul_le_mul_right _ hle) h))
      omega
    · have hKe : K = 2 ^ 53 := by omega
      have hv := V_of e K h3
      have hlt' := V_lt hlt
      rw [hv, hKe] at hlt'
      have h9 := (pow_move' h2).1 (Nat.le_trans (Nat.mul_le_mul_right _ (Nat.le_of_lt hlt')) h)
      omega
  rw [h1]
  exact Nat.le_min.2 ⟨h6, ht⟩
theorem sw : F.signWeight = 9223372036854775808 := by decide
/-- The word of a sign and a rung. -/
def W (s : Bool) (r : Nat) : Nat := if s = true then 9223372036854775808 + r else r
theorem word_W (s : Bool) (r : Nat) : F.word s r = W s r := by
  unfold Ieee.Format.word W
  rw [sw]
def M (r : Nat) : Nat := if r < 2 ^ 52 then r else 2 ^ 52 + r % 2 ^ 52
def P (r : Nat) : Int := if r < 2 ^ 52 then -1074 else -1074 + (r / 2 ^ 52 - 1 : Nat)
theorem P_ge (r : Nat) : -1074 ≤ P r := by unfold P; split <;> omega
theorem M_lt (r : Nat) : M r < 2 ^ 53 := by unfold M; split <;> omega
theorem MP (r : Nat) : M r * 2 ^ (P r + 1074).toNat = V r := by
  unfold M P V
  by_cases h : r < 2 ^ 52
  · rw [if_pos h, if_pos h, if_pos h]; simp
  · rw [if_neg h, if_neg h, if_neg h, show (-1074 + ((r / 2 ^ 52 - 1 : Nat) : Int) + 1074).toNat = r / 2 ^ 52 - 1 by omega]
theorem M_pos {r : Nat} (h : 0 < r) : 0 < M r := by unfold M; split <;> omega
theorem M_zero : M 0 = 0 := rfl
theorem W_div (s : Bool) (r : Nat) (h : r < 9223372036854775808) : W s r / 9223372036854775808 % 2 = s.toNat ∧ W s r % 9223372036854775808 = r := by
  unfold W
  cases s with
  | true => rw [if_pos rfl]; simp; omega
  | false => rw [if_neg (by decide)]; simp; omega
theorem read_W (s : Bool) (r : Nat) (h : r < 9218868437227405312) : F.read (W s r) = .number s (M r) (P r) := by
  obtain ⟨h1, h2⟩ := W_div s r (by omega)
  unfold Ieee.Format.read
  simp only [sw, bin, inf, lp, h1, h2]
  have hs : (s.toNat == 1) = s := by cases s <;> rfl
  rw [hs]
  unfold M P
  by_cases h52 : r < 2 ^ 52
  · rw [if_pos h52, if_pos h52, if_pos h52]
  · rw [if_neg h52, if_neg h52, if_neg h52, if_pos h]
theorem read_inf (s : Bool) : F.read (W s 9218868437227405312) = .infinity s := by cases s <;> decide +kernel
/-- The product's rung. -/
def mulR (r q : Nat) : Nat := nr (M r * M q) (P r + P q)
theorem mul_W (s t : Bool) {r q : Nat} (hr : r < 9218868437227405312) (hq : q < 9218868437227405312) : F.mul (W s r) (W t q) = some (W (s ^^ t) (mulR r q)) := by
  unfold Ieee.Format.mul
  rw [read_W s r hr, read_W t q hq]
  simp only [Ieee.Datum.product, Option.map_some, Ieee.Format.write]
  rw [nearest_word, word_W]
  rfl
theorem mul_val {r q : Nat} (v : Nat) : M r * M q * 2 ^ (P r + P q + 1074).toNat ≤ v * 2 ^ (-1074 - (P r + P q)).toNat ↔ V r * V q ≤ v * 2 ^ 1074 := by
  have a := P_ge r
  have b := P_ge q
  have e : V r * V q = M r * M q * 2 ^ ((P r + 1074).toNat + (P q + 1074).toNat) := by
    rw [← MP r, ← MP q, Nat.pow_add]
    simp only [Nat.mul_comm, Nat.mul_left_comm, Nat.mul_assoc]
  rw [e]
  have := pow_move (A := M r * M q) (B := v) (a := (P r + P q + 1074).toNat) (b := (-1074 - (P r + P q)).toNat) (c := (P r + 1074).toNat + (P q + 1074).toNat) (d := 1074) (e := 0) (by omega)
  rw [Nat.pow_zero, Nat.mul_one] at this
  exact this
theorem mulR_le {r q t : Nat} (h : V r * V q ≤ V t * 2 ^ 1074) : mulR r q ≤ t := nr_le ((mul_val _).2 h)
/-- The sum's rung. -/
def addR (r q : Nat) : Nat := nr (M r * 2 ^ (P r - min (P r) (P q)).toNat + M q * 2 ^ (P q - min (P r) (P q)).toNat) (min (P r) (P q))
theorem sum_V (r q : Nat) : M r * 2 ^ (P r - min (P r) (P q)).toNat * 2 ^ (min (P r) (P q) + 1074).toNat = V r ∧ M q * 2 ^ (P q - min (P r) (P q)).toNat * 2 ^ (min (P r) (P q) + 1074).toNat = V q := by
  have a := P_ge r
  have b := P_ge q
  constructor
  · rw [Nat.mul_assoc, ← Nat.pow_add, show (P r - min (P r) (P q)).toNat + (min (P r) (P q) + 1074).toNat = (P r + 1074).toNat by omega, MP]
  · rw [Nat.mul_assoc, ← Nat.pow_add, show (P q - min (P r) (P q)).toNat + (min (P r) (P q) + 1074).toNat = (P q + 1074).toNat by omega, MP]
theorem addR_mid {r q t : Nat} (h : 2 * (V r + V q) < V t + V (t + 1)) : addR r q ≤ t := by
  have a := P_ge r
  have b := P_ge q
  obtain ⟨e1, e2⟩ := sum_V r q
  refine nr_mid ?_
  rw [Nat.add_mul, e1, e2, show (-1074 - min (P r) (P q)).toNat = 0 by omega]
  omega
theorem addR_le {r q t : Nat} (h : V r + V q ≤ V t) : addR r q ≤ t := addR_mid (by have := V_step t; omega)
theorem le_addR {r q t : Nat} (ht : t ≤ 9218868437227405312) (h : V t ≤ V r + V q) : t ≤ addR r q := by
  have a := P_ge r
  have b := P_ge q
  obtain ⟨e1, e2⟩ := sum_V r q
  refine le_nr ht ?_
  rw [Nat.add_mul, e1, e2, show (-1074 - min (P r) (P q)).toNat = 0 by omega]
  omega
theorem signed_eq (s : Bool) (m k : Nat) : Ieee.signed s m k = if s = true then -((m * 2 ^ k : Nat) : Int) else ((m * 2 ^ k : Nat) : Int) := by
  unfold Ieee.signed
  rw [Nat.shiftLeft_eq]
theorem add_W (s : Bool) {r q : Nat} (hr : r < 9218868437227405312) (hq : q < 9218868437227405312) : F.add (W s r) (W s q) = some (W s (addR r q)) := by
  unfold Ieee.Format.add
  rw [read_W s r hr, read_W s q hq]
  simp only [Ieee.Datum.sum, Option.map_some, Ieee.Format.write, signed_eq]
  rw [nearest_word, word_W]
  unfold addR
  generalize M r * 2 ^ (P r - min (P r) (P q)).toNat = x
  generalize M q * 2 ^ (P q - min (P r) (P q)).toNat = y
  cases s with
  | true =>
    simp only [if_true]
    have e1 : (-(x : Int) + -(y : Int)).natAbs = x + y := by omega
    rw [e1]
    by_cases h : -(x : Int) + -(y : Int) = 0
    · rw [if_pos h]; rfl
    · rw [if_neg h, show decide (-(x : Int) + -(y : Int) < 0) = true by simp; omega]
  | false =>
    simp only [Bool.false_eq_true, if_false]
    have e1 : ((x : Int) + (y : Int)).natAbs = x + y := by omega
    rw [e1]
    by_cases h : (x : Int) + (y : Int) = 0
    · rw [if_pos h]; rfl
    · rw [if_neg h, show decide ((x : Int) + (y : Int) < 0) = false by simp; omega]
/-- The difference's rung. -/
def subR (r q : Nat) : Nat := nr (M r * 2 ^ (P r - min (P r) (P q)).toNat - M q * 2 ^ (P q - min (P r) (P q)).toNat) (min (P r) (P q))
theorem subR_le {r q t : Nat} (h : V r ≤ V t + V q) : subR r q ≤ t := by
  have a := P_ge r
  have b := P_ge q
  obtain ⟨e1, e2⟩ := sum_V r q
  refine nr_le ?_
  rw [Nat.sub_mul, e1, e2, show (-1074 - min (P r) (P q)).toNat = 0 by omega]
  omega
theorem le_subR {r q t : Nat} (ht : t ≤ 9218868437227405312) (h : V t + V q ≤ V r) : t ≤ subR r q := by
  have a := P_ge r
  have b := P_ge q
  obtain ⟨e1, e2⟩ := sum_V r q
  refine le_nr ht ?_
  rw [Nat.sub_mul, e1, e2, show (-1074 - min (P r) (P q)).toNat = 0 by omega]
  omega
theorem M_cmp {r q : Nat} : (M r * 2 ^ (P r - min (P r) (P q)).toNat < M q * 2 ^ (P q - min (P r) (P q)).toNat ↔ r < q) := by
  obtain ⟨e1, e2⟩ := sum_V r q
  have hp := Nat.two_pow_pos (min (P r) (P q) + 1074).toNat
  constructor
  · intro h
    have := Nat.mul_lt_mul_of_pos_right h hp
    rw [e1, e2] at this
    exact lt_of_V this
  · intro h
    have := V_lt h
    rw [← e1, ← e2] at this
    exact Nat.lt_of_mul_lt_mul_right this
theorem M_cmp' {r q : Nat} : (M q * 2 ^ (P q - min (P r) (P q)).toNat < M r * 2 ^ (P r - min (P r) (P q)).toNat ↔ q < r) := by
  obtain ⟨e1, e2⟩ := sum_V r q
  have hp := Nat.two_pow_pos (min (P r) (P q) + 1074).toNat
  constructor
  · intro h
    have := Nat.mul_lt_mul_of_pos_right h hp
    rw [e1, e2] at this
    exact lt_of_V this
  · intro h
    have := V_lt h
    rw [← e1, ← e2] at this
    exact Nat.lt_of_mul_lt_mul_right this
theorem add_ge {s : Bool} {r q : Nat} (hr : r < 9218868437227405312) (hq : q < 9218868437227405312) (h : q ≤ r) : F.add (W s r) (W (!s) q) = some (W (if r = q then false else s) (subR r q)) := by
  have hc1 := @M_cmp r q
  have hc2 := @M_cmp' r q
  unfold Ieee.Format.add
  rw [read_W s r hr, read_W (!s) q hq]
  simp only [Ieee.Datum.sum, Option.map_some, Ieee.Format.write, signed_eq]
  rw [nearest_word, word_W]
  unfold subR
  generalize M r * 2 ^ (P r - min (P r) (P q)).toNat = x at *
  generalize M q * 2 ^ (P q - min (P r) (P q)).toNat = y at *
  have hx : y ≤ x := Nat.le_of_not_lt fun hn => by have := hc1.1 hn; omega
  have he : r = q ↔ x = y := by
    constructor
    · intro e
      refine Nat.le_antisymm (Nat.le_of_not_lt fun hn => ?_) hx
      have := hc2.1 hn; omega
    · intro e
      refine Nat.le_antisymm (Nat.le_of_not_lt fun hn => ?_) h
      have := hc2.2 hn; omega
  cases s with
  | true =>
    simp only [if_true, Bool.not_true, Bool.false_eq_true, if_false]
    have e1 : (-(x : Int) + (y : Int)).natAbs = x - y := by omega
    rw [e1]
    by_cases hxy : x = y
    · rw [if_pos (by omega), if_pos (he.2 hxy)]; rfl
    · rw [if_neg (by omega), if_neg (fun e => hxy (he.1 e)), show decide (-(x : Int) + (y : Int) < 0) = true by simp; omega]
  | false =>
    simp only [if_true, Bool.not_false, Bool.false_eq_true, if_false]
    have e1 : ((x : Int) + -(y : Int)).natAbs = x - y := by omega
    rw [e1]
    by_cases hxy : x = y
    · rw [if_pos (by omega), if_pos (he.2 hxy)]; rfl
    · rw [if_neg (by omega), show decide ((x : Int) + -(y : Int) < 0) = false by simp; omega]
      rw [ite_self]
theorem add_comm_W (s t : Bool) {r q : Nat} (hr : r < 9218868437227405312) (hq : q < 9218868437227405312) : F.add (W s r) (W t q) = F.add (W t q) (W s r) := by
  unfold Ieee.Format.add
  rw [read_W s r hr, read_W t q hq]
  simp only [Ieee.Datum.sum, Option.map_some, Ieee.Format.write]
  rw [Int.min_comm (P q) (P r), Int.add_comm, Bool.and_comm]
theorem add_lt {s : Bool} {r q : Nat} (hr : r < 9218868437227405312) (hq : q < 9218868437227405312) (h : r < q) : F.add (W s r) (W (!s) q) = some (W (!s) (subR q r)) := by
  rw [add_comm_W _ _ hr hq]
  have := add_ge (s := !s) hq hr (Nat.le_of_lt h)
  rw [Bool.not_not, if_neg (by omega)] at this
  exact this
theorem sub_W (s t : Bool) {r q : Nat} (hr : r < 9218868437227405312) (hq : q < 9218868437227405312) : F.sub (W s r) (W t q) = F.add (W s r) (W (!t) q) := by
  unfold Ieee.Format.sub Ieee.Format.add
  rw [read_W s r hr, read_W t q hq, read_W (!t) q hq]
  rfl
/-- The quotient's rung. -/
def divR (r q : Nat) : Nat :=
  nr (2 * ((M r <<< (54 + (M q).log2 - (M r).log2)) / M q) + ((M r <<< (54 + (M q).log2 - (M r).log2)) % M q != 0).toNat) (P r - P q - (54 + (M q).log2 - (M r).log2 : Nat) - 1)
theorem div_W (s t : Bool) {r q : Nat} (hr : r < 9218868437227405312) (hq : q < 9218868437227405312) (h0 : 0 < q) : F.div (W s r) (W t q) = some (W (s ^^ t) (divR r q)) := by
  unfold Ieee.Format.div
  rw [read_W s r hr, read_W t q hq]
  have hm : ¬ M q = 0 := by have := M_pos h0; omega
  simp only [Ieee.Datum.quotient, if_neg hm, Option.map_some, Ieee.Format.write, fb]
  rw [nearest_word, word_W]
  rfl
theorem div_inf (s t : Bool) {r : Nat} (hr : r < 9218868437227405312) : F.div (W s r) (W t 9218868437227405312) = some (W (s ^^ t) 0) := by
  unfold Ieee.Format.div
  rw [read_W s r hr, read_inf t]
  simp only [Ieee.Datum.quotient, Option.map_some, Ieee.Format.write]
  rw [nearest_word, word_W, nr_zero]
theorem divR_le {r q t : Nat} (h0 : 0 < q) (h : V r * 2 ^ 1074 ≤ V t * V q) : divR r q ≤ t := by
  unfold divR
  have hn := M_pos h0
  have ei := P_ge r
  have ej := P_ge q
  have eh := P_ge t
  have hmt := M_lt t
  have hnl : M q < 2 ^ ((M q).log2 + 1) := Nat.lt_log2_self
  rw [← MP r, ← MP q, ← MP t] at h
  rw [Nat.shiftLeft_eq]
  by_cases hm0 : M r = 0
  · rw [hm0]
    simp only [Nat.zero_mul, Nat.zero_div, Nat.zero_mod]
    have : nr (2 * 0 + (0 != 0).toNat) (P r - P q - (54 + (M q).log2 - Nat.log2 0 : Nat) - 1) = 0 := nr_zero _
    rw [this]
    exact Nat.zero_le _
  have hml := Nat.log2_self_le hm0
  generalize hmore : 54 + (M q).log2 - (M r).log2 = more
  have hmore' : 54 + (M q).log2 ≤ more + (M r).log2 := by omega
  clear hmore
  have h1 : M r * 2 ^ ((P r + 1074).toNat + 1074) ≤ M t * M q * 2 ^ ((P t + 1074).toNat + (P q + 1074).toNat) * 2 ^ 0 := by
    rw [Nat.pow_add, ← Nat.mul_assoc, Nat.pow_zero, Nat.mul_one, Nat.pow_add]
    calc M r * 2 ^ (P r + 1074).toNat * 2 ^ 1074 ≤ M t * 2 ^ (P t + 1074).toNat * (M q * 2 ^ (P q + 1074).toNat) := h
      _ = M t * M q * (2 ^ (P t + 1074).toNat * 2 ^ (P q + 1074).toNat) := by
        simp only [Nat.mul_comm, Nat.mul_left_comm, Nat.mul_assoc]
  by_cases hk : P r - P q - more ≤ P t
  · have h2 : M r * 2 ^ more ≤ M t * M q * 2 ^ (P t - (P r - P q - more)).toNat := (pow_move (b := 0) (by omega)).1 h1
    have hmag : 2 * (M r * 2 ^ more / M q) + (M r * 2 ^ more % M q != 0).toNat ≤ 2 * (M t * 2 ^ (P t - (P r - P q - more)).toNat) := by
      have h3 : M r * 2 ^ more ≤ M t * 2 ^ (P t - (P r - P q - more)).toNat * M q := by
        refine Nat.le_trans h2 (Nat.le_of_eq ?_)
        simp only [Nat.mul_comm, Nat.mul_left_comm, Nat.mul_assoc]
      generalize M r * 2 ^ more = D at *
      generalize M t * 2 ^ (P t - (P r - P q - more)).toNat = K at *
      have hdm := Nat.div_add_mod D (M q)
      have hlt := Nat.mod_lt D hn
      generalize M q = n at *
      by_cases hr0 : D % n = 0
      · rw [hr0]
        simp only [bne_self_eq_false, Bool.toNat_false]
        have : D / n ≤ K := Nat.div_le_of_le_mul (by rw [Nat.mul_comm]; exact h3)
        omega
      · have hb : (D % n != 0).toNat = 1 := by simp [hr0]
        rw [hb]
        have : D / n < K := by
          refine Nat.lt_of_not_le fun hle => ?_
          have h4 : K * n ≤ D / n * n := Nat.mul_le_mul_right n hle
          rw [Nat.mul_comm (D / n) n] at h4
          omega
        omega
    refine nr_le (Nat.le_trans (Nat.mul_le_mul_right _ hmag) (Nat.le_of_eq ?_))
    rw [← MP t, show 2 * (M t * 2 ^ (P t - (P r - P q - more)).toNat) = M t * (2 ^ 1 * 2 ^ (P t - (P r - P q - more)).toNat) by
      rw [Nat.pow_one]; simp only [Nat.mul_comm, Nat.mul_left_comm, Nat.mul_assoc], ← Nat.pow_add, Nat.mul_assoc, ← Nat.pow_add, Nat.mul_assoc, ← Nat.pow_add]
    congr 2
    omega
  · exfalso
    have h2 : M r * 2 ^ (more + (P r - P q - more - P t).toNat) ≤ M t * M q * 2 ^ 0 := (pow_move (b := 0) (by omega)).1 h1
    rw [Nat.pow_zero, Nat.mul_one] at h2
    have h3 : M t * M q < 2 ^ 53 * 2 ^ ((M q).log2 + 1) := Nat.mul_lt_mul_of_lt_of_le hmt (Nat.le_of_lt hnl) (Nat.two_pow_pos _)
    have h4 : 2 ^ (M r).log2 * 2 ^ (more + (P r - P q - more - P t).toNat) ≤ M r * 2 ^ (more + (P r - P q - more - P t).toNat) := Nat.mul_le_mul_right _ hml
    rw [← Nat.pow_add] at h3 h4
    have h5 : 2 ^ (53 + ((M q).log2 + 1)) ≤ 2 ^ ((M r).log2 + (more + (P r - P q - more - P t).toNat)) := Nat.pow_le_pow_right (by omega) (by omega)
    omega
theorem divR_inf (r q : Nat) : divR r q ≤ 9218868437227405312 := nr_inf _ _
/-- A word's value with its sign. -/
def sv (s : Bool) (r : Nat) : Int := if s = true then -(V r : Int) else (V r : Int)
theorem sv_true (r : Nat) : sv true r = -(V r : Int) := rfl
theorem sv_false (r : Nat) : sv false r = (V r : Int) := rfl
theorem cmp_mul (x y c : Int) (hc : 0 < c) : compare (x * c) (y * c) = compare x y := by
  show compareOfLessAndEq _ _ = compareOfLessAndEq _ _
  unfold compareOfLessAndEq
  by_cases h : x < y
  · rw [if_pos h, if_pos (Int.mul_lt_mul_of_pos_right h hc)]
  · rw [if_neg h, if_neg (fun h' => h (Int.lt_of_mul_lt_mul_right h' (Int.le_of_lt hc)))]
    by_cases e : x = y
    · rw [if_pos e, if_pos (by rw [e])]
    · rw [if_neg e, if_neg (fun e' => e (Int.eq_of_mul_eq_mul_right (by omega) e'))]
theorem cmp_lt {x y : Int} (h : x < y) : compare x y = .lt := by
  show compareOfLessAndEq _ _ = _
  unfold compareOfLessAndEq
  rw [if_pos h]
theorem cmp_gt {x y : Int} (h : y < x) : compare x y = .gt := by
  show compareOfLessAndEq _ _ = _
  unfold compareOfLessAndEq
  rw [if_neg (by omega), if_neg (by omega)]
theorem cmp_eq {x y : Int} (h : x = y) : compare x y = .eq := by
  show compareOfLessAndEq _ _ = _
  unfold compareOfLessAndEq
  rw [if_neg (by omega), if_pos h]
theorem sv_scale (s : Bool) (r : Nat) (base : Int) (h : base ≤ P r) (hb : -1074 ≤ base) : Ieee.signed s (M r) (P r - base).toNat * ((2 ^ (base + 1074).toNat : Nat) : Int) = sv s r := by
  have e : M r * 2 ^ (P r - base).toNat * 2 ^ (base + 1074).toNat = V r := by
    rw [Nat.mul_assoc, ← Nat.pow_add, show (P r - base).toNat + (base + 1074).toNat = (P r + 1074).toNat by omega, MP]
  rw [signed_eq]
  unfold sv
  rw [← e]
  cases s with
  | true => rw [if_pos rfl, if_pos rfl, Int.neg_mul, Int.natCast_mul (M r * _)]
  | false => rw [if_neg (by decide), if_neg (by decide), Int.natCast_mul (M r * _)]
theorem order_W (s t : Bool) {r q : Nat} (hr : r ≤ 9218868437227405312) (hq : q ≤ 9218868437227405312) : F.order (W s r) (W t q) = some (compare (sv s r) (sv t q)) := by
  unfold Ieee.Format.order
  by_cases h1 : r < 9218868437227405312
  · rw [read_W s r h1]
    by_cases h2 : q < 9218868437227405312
    · rw [read_W t q h2]
      simp only [Ieee.Datum.order]
      have a := P_ge r
      have b := P_ge q
      rw [← sv_scale s r (min (P r) (P q)) (by omega) (by omega), ← sv_scale t q (min (P r) (P q)) (by omega) (by omega), cmp_mul _ _ _ (by have := Nat.two_pow_pos (min (P r) (P q) + 1074).toNat; omega)]
    · obtain rfl : q = 9218868437227405312 := by omega
      rw [read_inf t]
      simp only [Ieee.Datum.order]
      have := V_lt h1
      cases t with
      | true =>
        rw [if_pos rfl, cmp_gt]
        cases s <;> simp only [sv_true, sv_false] <;> omega
      | false =>
        rw [if_neg (by decide), cmp_lt]
        cases s <;> simp only [sv_true, sv_false] <;> omega
  · obtain rfl : r = 9218868437227405312 := by omega
    rw [read_inf s]
    by_cases h2 : q < 9218868437227405312
    · rw [read_W t q h2]
      simp only [Ieee.Datum.order]
      have := V_lt h2
      cases s with
      | true =>
        rw [if_pos rfl, cmp_lt]
        cases t <;> simp only [sv_true, sv_false] <;> omega
      | false =>
        rw [if_neg (by decide), cmp_gt]
        cases t <;> simp only [sv_true, sv_false] <;> omega
    · obtain rfl : q = 9218868437227405312 := by omega
      rw [read_inf t]
      simp only [Ieee.Datum.order]
      have hv : 0 < V 9218868437227405312 := V_lt (r := 0) (by omega)
      cases s <;> cases t
      · rw [cmp_eq (by rfl)]; rfl
      · rw [cmp_gt (by rw [sv_true, sv_false]; omega)]; rfl
      · rw [cmp_lt (by rw [sv_true, sv_false]; omega)]; rfl
      · rw [cmp_eq (by rfl)]; rfl
end Go.Proofs.Ytdiadeebboojgaa.at
