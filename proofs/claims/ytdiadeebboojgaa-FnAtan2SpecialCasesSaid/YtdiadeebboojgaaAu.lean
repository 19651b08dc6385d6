/-
  The arc tangent's polynomial in doubles: what rounding does to its bounds (plain, no program in sight).
-/
import Derived.Test.YtdiadeebboojgaaAt
import Derived.Laws.FloatArith
namespace Go.Proofs.Ytdiadeebboojgaa.at
set_option linter.unusedVariables false
set_option linter.unusedSimpArgs false
set_option maxRecDepth 100000
open Go
abbrev INF : Nat := 9218868437227405312
abbrev cP0 : Nat := 4606057067071350164
abbrev cP1 : Nat := 4625241160085635194
abbrev cP2 : Nat := 4634978674960499315
abbrev cP3 : Nat := 4638347797471803941
abbrev cP4 : Nat := 4634263845411024014
abbrev cQ0 : Nat := 4627690253511319612
abbrev cQ1 : Nat := 4640010388282866213
abbrev cQ2 : Nat := 4646322940342877755
abbrev cQ3 : Nat := 4647246694406179306
abbrev cQ4 : Nat := 4641049159275471596
abbrev cMb : Nat := 4364452196894661639
abbrev cMh : Nat := 4359948597267291143
abbrev cTan : Nat := 4612618744449965542
abbrev c66 : Nat := 4604119971053405471
abbrev cPi : Nat := 4614256656552045848
abbrev cPi2 : Nat := 4609753056924675352
abbrev cPi4 : Nat := 4605249457297304856
abbrev c1 : Nat := 4607182418800017408
abbrev ch : Nat := 4602678819172646912

theorem V_mul {r q R Q : Nat} (hr : r ≤ R) (hq : q ≤ Q) : V r * V q ≤ V R * V Q := Nat.mul_le_mul (V_le hr) (V_le hq)
theorem mul_up {r q R Q : Nat} (t : Nat) (hr : r ≤ R) (hq : q ≤ Q) (h : V R * V Q ≤ V t * 2 ^ 1074) : mulR r q ≤ t := mulR_le (Nat.le_trans (V_mul hr hq) h)
theorem add_up {r q R Q : Nat} (t : Nat) (hr : r ≤ R) (hq : q ≤ Q) (h : V R + V Q ≤ V t) : addR r q ≤ t := addR_le (Nat.le_trans (Nat.add_le_add (V_le hr) (V_le hq)) h)
theorem div_up {r q R Q : Nat} (t : Nat) (hr : r ≤ R) (hq : Q ≤ q) (h0 : 0 < Q) (h : V R * 2 ^ 1074 ≤ V t * V Q) : divR r q ≤ t :=
  divR_le (by omega) (Nat.le_trans (Nat.mul_le_mul_right _ (V_le hr)) (Nat.le_trans h (Nat.mul_le_mul_left _ (V_le hq))))

def n1 (z : Nat) : Nat := addR (mulR cP0 z) cP1
def n2 (z : Nat) : Nat := addR (mulR (n1 z) z) cP2
def n3 (z : Nat) : Nat := addR (mulR (n2 z) z) cP3
def n4 (z : Nat) : Nat := addR (mulR (n3 z) z) cP4
def d1 (z : Nat) : Nat := addR z cQ0
def d2 (z : Nat) : Nat := addR (mulR (d1 z) z) cQ1
def d3 (z : Nat) : Nat := addR (mulR (d2 z) z) cQ2
def d4 (z : Nat) : Nat := addR (mulR (d3 z) z) cQ3
def d5 (z : Nat) : Nat := addR (mulR (d4 z) z) cQ4
def co (z : Nat) : Nat := divR (mulR z (n4 z)) (d5 z)
/-- The bounds of every step, for a square of at most a half. -/
structure Steps (z : Nat) : Prop where
  m1 : mulR cP0 z ≤ ch
  n1 : n1 z ≤ 4625478292286210048
  m2 : mulR (at.n1 z) z ≤ 4620974692658839552
  n2 : n2 z ≤ 4635611391447793664
  m3 : mulR (at.n2 z) z ≤ 4631107791820423168
  n3 : n3 z ≤ 4640009437958897664
  m4 : mulR (at.n3 z) z ≤ 4635541022703616000
  n4 : n4 z ≤ 4639411303633387520
  m5 : mulR z (at.n4 z) ≤ 4634907704006017024
  d1 : d1 z ≤ 4628011567076605952
  k1 : mulR (at.d1 z) z ≤ 4623507967449235456
  d2 : d2 z ≤ 4640502019168141312
  k2 : mulR (at.d2 z) z ≤ 4636033603912859648
  d3 : d3 z ≤ 4647811572469596160
  k3 : mulR (at.d3 z) z ≤ 4643316768935247872
  d4 : d4 z ≤ 4649790693399592960
  k4 : mulR (at.d4 z) z ≤ 4645287093772222464
  d5 : d5 z ≤ 4648216192748617728
  d5' : cQ4 ≤ at.d5 z
  c : co z ≤ ch
theorem steps {z : Nat} (hz : z ≤ ch) : Steps z := by
  have m1 : mulR cP0 z ≤ ch := mul_up _ (Nat.le_refl _) hz (by decide +kernel)
  have n1 : n1 z ≤ 4625478292286210048 := add_up _ m1 (Nat.le_refl _) (by decide +kernel)
  have m2 : mulR (at.n1 z) z ≤ 4620974692658839552 := mul_up _ n1 hz (by decide +kernel)
  have n2 : n2 z ≤ 4635611391447793664 := add_up _ m2 (Nat.le_refl _) (by decide +kernel)
  have m3 : mulR (at.n2 z) z ≤ 4631107791820423168 := mul_up _ n2 hz (by decide +kernel)
  have n3 : n3 z ≤ 4640009437958897664 := add_up _ m3 (Nat.le_refl _) (by decide +kernel)
  have m4 : mulR (at.n3 z) z ≤ 4635541022703616000 := mul_up _ n3 hz (by decide +kernel)
  have n4 : n4 z ≤ 4639411303633387520 := add_up _ m4 (Nat.le_refl _) (by decide +kernel)
  have m5 : mulR z (at.n4 z) ≤ 4634907704006017024 := mul_up _ hz n4 (by decide +kernel)
  have d1 : d1 z ≤ 4628011567076605952 := add_up _ hz (Nat.le_refl _) (by decide +kernel)
  have k1 : mulR (at.d1 z) z ≤ 4623507967449235456 := mul_up _ d1 hz (by decide +kernel)
  have d2 : d2 z ≤ 4640502019168141312 := add_up _ k1 (Nat.le_refl _) (by decide +kernel)
  have k2 : mulR (at.d2 z) z ≤ 4636033603912859648 := mul_up _ d2 hz (by decide +kernel)
  have d3 : d3 z ≤ 4647811572469596160 := add_up _ k2 (Nat.le_refl _) (by decide +kernel)
  have k3 : mulR (at.d3 z) z ≤ 4643316768935247872 := mul_up _ d3 hz (by decide +kernel)
  have d4 : d4 z ≤ 4649790693399592960 := add_up _ k3 (Nat.le_refl _) (by decide +kernel)
  have k4 : mulR (at.d4 z) z ≤ 4645287093772222464 := mul_up _ d4 hz (by decide +kernel)
  have d5 : d5 z ≤ 4648216192748617728 := add_up _ k4 (Nat.le_refl _) (by decide +kernel)
  have d5' : cQ4 ≤ at.d5 z := le_addR (by decide) (Nat.le_add_left _ _)
  exact ⟨m1, n1, m2, n2, m3, n3, m4, n4, m5, d1, k1, d2, k2, d3, k3, d4, k4, d5, d5', div_up _ m5 d5' (by decide) (by decide +kernel)⟩

theorem fmul (s t : Bool) {r q : Nat} (hr : r < INF) (hq : q < INF) : floatBits .mul .f64 (W s r) (W t q) = some (W (s ^^ t) (mulR r q)) := mul_W s t hr hq
theorem fadd (s : Bool) {r q : Nat} (hr : r < INF) (hq : q < INF) : floatBits .add .f64 (W s r) (W s q) = some (W s (addR r q)) := add_W s hr hq
theorem fdiv (s t : Bool) {r q : Nat} (hr : r < INF) (hq : q < INF) (h0 : 0 < q) : floatBits .quo .f64 (W s r) (W t q) = some (W (s ^^ t) (divR r q)) := div_W s t hr hq h0
theorem fadd_ge {s : Bool} {r q : Nat} (hr : r < INF) (h : q ≤ r) : floatBits .add .f64 (W s r) (W (!s) q) = some (W (if r = q then false else s) (subR r q)) := add_ge hr (Nat.lt_of_le_of_lt h hr) h
theorem fadd_ge' {s : Bool} {r q : Nat} (hr : r < INF) (h : q ≤ r) : floatBits .add .f64 (W (!s) q) (W s r) = some (W (if r = q then false else s) (subR r q)) := by
  show F.add _ _ = _
  rw [add_comm_W _ _ (Nat.lt_of_le_of_lt h hr) hr]
  exact add_ge hr (Nat.lt_of_le_of_lt h hr) h
theorem fsub (s t : Bool) {r q : Nat} (hr : r < INF) (hq : q < INF) : floatBits .sub .f64 (W s r) (W t q) = floatBits .add .f64 (W s r) (W (!t) q) := sub_W s t hr hq


theorem W0 (r : Nat) : W false r = r := rfl
/-- The polynomial's walk: every operation, one by one; s: the argument's sign, r: its rung. -/
theorem poly (s : Bool) (r : Nat) (hr : r ≤ c66) : ∃ z a1 b1 a2 b2 a3 b3 a4 b4 e f1 k1 f2 k2 f3 k3 f4 k4 f5 q y : Nat, ∃ (s' : Bool) (r' : Nat),
    floatBits .mul .f64 (W s r) (W s r) = some z ∧
    floatBits .mul .f64 13829429103926125972 z = some a1 ∧ floatBits .add .f64 a1 13848613196940411002 = some b1 ∧
    floatBits .mul .f64 b1 z = some a2 ∧ floatBits .add .f64 a2 13858350711815275123 = some b2 ∧
    floatBits .mul .f64 b2 z = some a3 ∧ floatBits .add .f64 a3 13861719834326579749 = some b3 ∧
    floatBits .mul .f64 b3 z = some a4 ∧ floatBits .add .f64 a4 13857635882265799822 = some b4 ∧
    floatBits .mul .f64 z b4 = some e ∧
    floatBits .add .f64 z 4627690253511319612 = some f1 ∧
    floatBits .mul .f64 f1 z = some k1 ∧ floatBits .add .f64 k1 4640010388282866213 = some f2 ∧
    floatBits .mul .f64 f2 z = some k2 ∧ floatBits .add .f64 k2 4646322940342877755 = some f3 ∧
    floatBits .mul .f64 f3 z = some k3 ∧ floatBits .add .f64 k3 4647246694406179306 = some f4 ∧
    floatBits .mul .f64 f4 z = some k4 ∧ floatBits .add .f64 k4 4641049159275471596 = some f5 ∧
    floatBits .quo .f64 e f5 = some q ∧ floatBits .mul .f64 (W s r) q = some y ∧ floatBits .add .f64 y (W s r) = some (W s' r') ∧
    r' ≤ r ∧ (s' = s ∨ (s' = false ∧ r' = 0)) := by
  have hrI : r < INF := Nat.lt_of_le_of_lt hr (by decide)
  obtain ⟨z, hz⟩ : ∃ z, mulR r r = z := ⟨_, rfl⟩
  have hzh : z ≤ ch := by rw [← hz]; exact mul_up _ hr hr (by decide +kernel)
  have hzI : z < INF := Nat.lt_of_le_of_lt hzh (by decide)
  obtain ⟨m1, n1, m2, n2, m3, n3, m4, n4, m5, d1, k1, d2, k2, d3, k3, d4, k4, d5, d5', c⟩ := steps hzh
  have lt : ∀ {a b : Nat}, a ≤ b → b < INF → a < INF := fun h k => Nat.lt_of_le_of_lt h k
  obtain ⟨m, hm⟩ : ∃ m, mulR r (co z) = m := ⟨_, rfl⟩
  have hmr : m ≤ r := by
    rw [← hm]
    exact mulR_le (Nat.mul_le_mul_left _ (Nat.le_trans (V_le c) (by decide +kernel)))
  refine ⟨W false z, W true (mulR cP0 z), W true (at.n1 z), W true (mulR (at.n1 z) z), W true (at.n2 z), W true (mulR (at.n2 z) z), W true (at.n3 z), W true (mulR (at.n3 z) z), W true (at.n4 z), W true (mulR z (at.n4 z)),
    W false (at.d1 z), W false (mulR (at.d1 z) z), W false (at.d2 z), W false (mulR (at.d2 z) z), W false (at.d3 z), W false (mulR (at.d3 z) z), W false (at.d4 z), W false (mulR (at.d4 z) z), W false (at.d5 z), W true (co z), W (!s) m,
    (if r = m then false else s), subR r m, ?_, ?_, ?_, ?_, ?_, ?_, ?_, ?_, ?_, ?_, ?_, ?_, ?_, ?_, ?_, ?_, ?_, ?_, ?_, ?_, ?_, ?_, ?_, ?_⟩
  · have := fmul s s hrI hrI; rw [Bool.xor_self, hz] at this; exact this
  · exact fmul true false (r := cP0) (by decide) hzI
  · exact fadd true (q := cP1) (lt m1 (by decide)) (by decide)
  · exact fmul true false (lt n1 (by decide)) hzI
  · exact fadd true (q := cP2) (lt m2 (by decide)) (by decide)
  · exact fmul true false (lt n2 (by decide)) hzI
  · exact fadd true (q := cP3) (lt m3 (by decide)) (by decide)
  · exact fmul true false (lt n3 (by decide)) hzI
  · exact fadd true (q := cP4) (lt m4 (by decide)) (by decide)
  · exact fmul false true hzI (lt n4 (by decide))
  · exact fadd false (q := cQ0) hzI (by decide)
  · exact fmul false false (lt d1 (by decide)) hzI
  · exact fadd false (q := cQ1) (lt k1 (by decide)) (by decide)
  · exact fmul false false (lt d2 (by decide)) hzI
  · exact fadd false (q := cQ2) (lt k2 (by decide)) (by decide)
  · exact fmul false false (lt d3 (by decide)) hzI
  · exact fadd false (q := cQ3) (lt k3 (by decide)) (by decide)
  · exact fmul false false (lt d4 (by decide)) hzI
  · exact fadd false (q := cQ4) (lt k4 (by decide)) (by decide)
  · exact fdiv true false (lt m5 (by decide)) (lt d5 (by decide)) (Nat.lt_of_lt_of_le (by decide) d5')
  · have := fmul s true hrI (lt c (by decide)); rw [Bool.xor_true, hm] at this; exact this
  · exact fadd_ge' hrI hmr
  · exact subR_le (Nat.le_add_right _ _)
  · by_cases e : r = m
    · rw [if_pos e]
      refine Or.inr ⟨rfl, ?_⟩
      subst e
      exact Nat.le_zero.1 (subR_le (by rw [V_zero, Nat.zero_add]; exact Nat.le_refl _))
    · rw [if_neg e]; exact Or.inl rfl
/-- A great argument: its inverse. -/
theorem inv {r : Nat} (h : cTan < r) (hi : r ≤ INF) : ∃ d, floatBits .quo .f64 4607182418800017408 (W false r) = some (W false d) ∧ d ≤ c66 := by
  by_cases e : r < INF
  · exact ⟨_, fdiv false false (r := c1) (by decide) e (by omega), div_up (r := c1) (R := c1) (Q := cTan) _ (Nat.le_refl _) (by omega) (by decide) (by decide +kernel)⟩
  · obtain rfl : r = INF := by omega
    exact ⟨0, div_inf false false (r := c1) (by decide), Nat.zero_le _⟩
theorem great {d : Nat} (h : d ≤ c66) : ∃ v u, floatBits .sub .f64 4609753056924675352 (W false d) = some (W false v) ∧ floatBits .add .f64 (W false v) 4364452196894661639 = some (W false u) ∧ u ≤ cPi2 := by
  have hv : subR cPi2 d ≤ cPi2 := subR_le (Nat.le_add_right _ _)
  refine ⟨subR cPi2 d, addR (subR cPi2 d) cMb, ?_, fadd false (q := cMb) (Nat.lt_of_le_of_lt hv (by decide)) (by decide), ?_⟩
  · have a := fsub false false (r := cPi2) (q := d) (by decide) (Nat.lt_of_le_of_lt h (by decide))
    have b := fadd_ge (s := false) (r := cPi2) (q := d) (by decide) (Nat.le_trans h (by decide))
    rw [ite_self] at b
    exact a.trans b
  · refine addR_mid ?_
    have := V_le hv
    have k : V cPi2 + 2 * V cMb < V (cPi2 + 1) := by decide +kernel
    omega
theorem mid {r : Nat} (h : c66 < r) (ht : r ≤ cTan) : ∃ (a b : Nat) (s : Bool) (d : Nat), floatBits .sub .f64 (W false r) 4607182418800017408 = some a ∧ floatBits .add .f64 (W false r) 4607182418800017408 = some b ∧ floatBits .quo .f64 a b = some (W s d) ∧ d ≤ c66 := by
  have hr : r < INF := Nat.lt_of_le_of_lt ht (by decide)
  have sb := fsub false false (r := r) (q := c1) hr (by decide)
  have ad := fadd false (r := r) (q := c1) hr (by decide)
  have up : addR r c1 ≤ 4616189618054758400 := add_up _ ht (Nat.le_refl _) (by decide +kernel)
  have upI : addR r c1 < INF := Nat.lt_of_le_of_lt up (by decide)
  by_cases h1 : c1 ≤ r
  · have g := fadd_ge (s := false) hr h1
    rw [ite_self] at g
    have lo : 4611686018427387904 ≤ addR r c1 := le_addR (by decide) (Nat.le_trans (Nat.le_of_eq (by decide +kernel : V 4611686018427387904 = V c1 + V c1)) (Nat.add_le_add_right (V_le h1) _))
    by_cases h2 : 4611686018427387904 ≤ r
    · have lo : 4613937818241073152 ≤ addR r c1 := le_addR (by decide) (Nat.le_trans (by decide +kernel : V 4613937818241073152 ≤ V 4611686018427387904 + V c1) (Nat.add_le_add_right (V_le h2) _))
      have hi : subR r c1 ≤ 4609434218613702656 := subR_le (Nat.le_trans (V_le ht) (by decide +kernel))
      exact ⟨_, _, false, _, sb.trans g, ad, fdiv false false (Nat.lt_of_le_of_lt hi (by decide)) upI (Nat.lt_of_lt_of_le (by decide) lo), div_up _ hi lo (by decide) (by decide +kernel)⟩
    · have hi : subR r c1 ≤ c1 := subR_le (Nat.le_trans (V_le (Nat.le_of_not_le h2)) (Nat.le_of_eq (by decide +kernel)))
      exact ⟨_, _, false, _, sb.trans g, ad, fdiv false false (Nat.lt_of_le_of_lt hi (by decide)) upI (Nat.lt_of_lt_of_le (by decide) lo), div_up _ hi lo (by decide) (by decide +kernel)⟩
  · have g := add_lt (s := false) hr (q := c1) (by decide) (by omega)
    have lo : c1 ≤ addR r c1 := le_addR (by decide) (Nat.le_add_left _ _)
    have hi : subR c1 r ≤ 4602678819172646912 := subR_le (Nat.le_trans (by decide +kernel : V c1 ≤ V 4602678819172646912 + V c66) (Nat.add_le_add_left (V_le (Nat.le_of_lt h)) _))
    exact ⟨_, _, true, _, sb.trans g, ad, fdiv true false (Nat.lt_of_le_of_lt hi (by decide)) upI (Nat.lt_of_lt_of_le (by decide) lo), div_up _ hi lo (by decide) (by decide +kernel)⟩
theorem midEnd (s : Bool) {d : Nat} (h : d ≤ c66) : ∃ v u, floatBits .add .f64 4605249457297304856 (W s d) = some (W false v) ∧ floatBits .add .f64 (W false v) 4359948597267291143 = some (W false u) ∧ u ≤ cPi2 := by
  have hd : d < INF := Nat.lt_of_le_of_lt h (by decide)
  cases s with
  | false =>
    have hv : addR cPi4 d ≤ 4609434218613702656 := add_up _ (Nat.le_refl _) h (by decide +kernel)
    exact ⟨_, _, fadd false (r := cPi4) (by decide) hd, fadd false (q := cMh) (Nat.lt_of_le_of_lt hv (by decide)) (by decide), add_up _ hv (Nat.le_refl _) (by decide +kernel)⟩
  | true =>
    have b := fadd_ge (s := false) (r := cPi4) (q := d) (by decide) (Nat.le_trans h (by decide))
    rw [ite_self] at b
    have hv : subR cPi4 d ≤ cPi4 := subR_le (Nat.le_add_right _ _)
    exact ⟨_, _, b, fadd false (q := cMh) (Nat.lt_of_le_of_lt hv (by decide)) (by decide), add_up _ hv (Nat.le_refl _) (by decide +kernel)⟩
/-- The left half plane: plus pi. -/
theorem left_add (s : Bool) {q : Nat} (hq : q ≤ cPi2) (h : s = true ∨ q = 0) : ∃ u, floatBits .add .f64 (W s q) 4614256656552045848 = some (W false u) ∧ cPi2 ≤ u ∧ u ≤ cPi := by
  cases s with
  | true =>
    have b := fadd_ge' (s := false) (r := cPi) (q := q) (by decide) (Nat.le_trans hq (by decide))
    rw [ite_self] at b
    exact ⟨_, b, le_subR (by decide) (Nat.le_trans (Nat.add_le_add_left (V_le hq) _) (by decide +kernel)), subR_le (Nat.le_add_right _ _)⟩
  | false =>
    obtain rfl : q = 0 := h.resolve_left (by decide)
    exact ⟨_, fadd false (r := 0) (q := cPi) (by decide) (by decide), le_addR (by decide) (by decide +kernel), add_up _ (Nat.le_refl _) (Nat.le_refl _) (by decide +kernel)⟩
/-- The left half plane: less pi. -/
theorem left_sub {q : Nat} (hq : q ≤ cPi2) : ∃ u, floatBits .sub .f64 (W false q) 4614256656552045848 = some (W true u) ∧ cPi2 ≤ u ∧ u ≤ cPi := by
  have a := fsub false false (r := q) (q := cPi) (Nat.lt_of_le_of_lt hq (by decide)) (by decide)
  have b := add_lt (s := false) (r := q) (q := cPi) (Nat.lt_of_le_of_lt hq (by decide)) (by decide) (Nat.lt_of_le_of_lt hq (by decide))
  exact ⟨_, a.trans b, le_subR (by decide) (Nat.le_trans (Nat.add_le_add_left (V_le hq) _) (by decide +kernel)), subR_le (Nat.le_add_right _ _)⟩
end Go.Proofs.Ytdiadeebboojgaa.at
