/-
  The statement FnAtan2SpecialCases: for every two float64 words the law returns true. No condition.
-/
import Derived.Test.YtdiadeebboojgaaRows
import Derived.Test.YtdiadeebboojgaaAz
import Derived.WalkKit
import Derived.ProofKit
import Derived.OpenShut
import Derived.ShutString
import Derived.ChangeOld
import Derived.Below
namespace Go.Proofs.Ytdiadeebboojgaa.fnAtan2SpecialCases
open Go.ChangeShapes Go.WideShapes Go.ChangeAt Go.RowKit Go.Proofs.Ytdiadeebboojgaa.fl Go.Proofs.Ytdiadeebboojgaa.at
open Go.ChangeMaps (open_string shut_string)
set_option linter.unusedVariables false

theorem own : ownKnob Try.prog.godebug = none := by kernel_rfl
theorem laidOut : laidOutB Try.prog = true := by kernel_rfl
set_option maxRecDepth 100000
set_option maxHeartbeats 4000000
theorem N24 (s : Bool) {r : Nat} (h : r ≤ INF) : Gives 24 #[fl1 (W s r)] (.bool false) := by have := isnan24 (W s r); rw [nanW s h] at this; exact this
theorem N12 (s : Bool) {r : Nat} (h : r ≤ INF) : Gives 12 #[fl1 (W s r)] (.bool false) := by have := l12 (W s r); rw [nanW s h] at this; exact this
theorem T24 {x : Nat} (h : NaNW x) : Gives 24 #[fl1 x] (.bool true) := by have := isnan24 x; rw [h.nan] at this; exact this
theorem T12 {x : Nat} (h : NaNW x) : Gives 12 #[fl1 x] (.bool true) := by have := l12 x; rw [h.nan] at this; exact this
theorem made : NaNW 9221120237041090561 := nan_of (s := false) (f := 2251799813685249) (by decide +kernel)
def SaysTrue (y x : Nat) : Prop := ∀ w : World, Calls Try.prog 4 #[fl1 y, fl1 x] w fun e w' => e = .returned (.bool true) ∧ Below w.heap.size w w'
/-- y is nought. -/
theorem yNought (sy sx : Bool) {rx : Nat} (hx : rx ≤ INF) : SaysTrue (W sy 0) (W sx rx) := by
  have hy : 0 ≤ INF := Nat.zero_le _
  have oy : (FloatKind.f64.format.order (W sy 0) 0 == some .eq) = true := by rw [zEq]; rfl
  have S0 := l7 (W sy 0) (W_lt sy hy)
  have SP := l7 (W sy cPi) (W_lt sy (by decide))
  have C0 := copy17 0 sy 0 (by decide) hy
  have CP := copy17 cPi sy 0 (by decide) hy
  rcases Nat.eq_zero_or_pos rx with rfl | h
  · have ox : (FloatKind.f64.format.order (W sx 0) 0 == some .eq) = true := by rw [zEq]; rfl
    have xp : (FloatKind.f64.format.order (W sx 0) 0 == some .gt) = false := by rw [zEq]; rfl
    have xg : (FloatKind.f64.format.order (W sx 0) 0 == some .gt || FloatKind.f64.format.order (W sx 0) 0 == some .eq) = true := by rw [zEq]; rfl
    cases sx with
    | false => exact w_y0z _ _ _ 0 sy (at11 _ _ _ (t_y0pos _ _ _ (N24 sy hy) (N24 false hx) oy xg (sign26 false 0 hx) C0)) (N12 sy hy) (N12 false hx) (l13 sy hy) oy xp ox (l13 false hx) (l14 0 sy hy) S0
    | true => exact w_y0nz _ _ _ 0 sy (at11 _ _ _ (t_y0nz _ _ _ (N24 sy hy) (N24 true hx) oy xg (sign26 true 0 hx) CP)) (N12 sy hy) (N12 true hx) (l13 sy hy) oy xp ox (l13 true hx) (l14 cPi sy (by decide)) SP
  · cases sx with
    | false =>
      have xp : (FloatKind.f64.format.order (W false rx) 0 == some .gt) = true := by rw [zGt hx h]; rfl
      have xg : (FloatKind.f64.format.order (W false rx) 0 == some .gt || FloatKind.f64.format.order (W false rx) 0 == some .eq) = true := by rw [zGt hx h]; rfl
      exact w_y0p _ _ _ 0 sy (at11 _ _ _ (t_y0pos _ _ _ (N24 sy hy) (N24 false hx) oy xg (sign26 false rx hx) C0)) (N12 sy hy) (N12 false hx) (l13 sy hy) oy xp (l14 0 sy hy) S0
    | true =>
      have ox : (FloatKind.f64.format.order (W true rx) 0 == some .eq) = false := by rw [zLt hx h]; rfl
      have xp : (FloatKind.f64.format.order (W true rx) 0 == some .gt) = false := by rw [zLt hx h]; rfl
      have xg : (FloatKind.f64.format.order (W true rx) 0 == some .gt || FloatKind.f64.format.order (W true rx) 0 == some .eq) = false := by rw [zLt hx h]; rfl
      exact w_y0n _ _ _ 0 sy (at11 _ _ _ (t_y0neg _ _ _ (N24 sy hy) (N24 true hx) oy xg CP)) (N12 sy hy) (N12 true hx) (l13 sy hy) oy xp ox (l14 cPi sy (by decide)) SP
theorem ne0 (s : Bool) {r : Nat} (hr : r ≤ INF) (h : 0 < r) : (FloatKind.f64.format.order (W s r) 0 == some .eq) = false := by
  cases s with
  | false => rw [zGt hr h]; rfl
  | true => rw [zLt hr h]; rfl
theorem gt0 (s : Bool) {r : Nat} (hr : r ≤ INF) (h : 0 < r) : (FloatKind.f64.format.order (W s r) 0 == some .gt) = !s := by
  cases s with
  | false => rw [zGt hr h]; rfl
  | true => rw [zLt hr h]; rfl
theorem lt0 (s : Bool) {r : Nat} (hr : r ≤ INF) (h : 0 < r) : (FloatKind.f64.format.order (W s r) 0 == some .lt) = s := by
  cases s with
  | false => rw [zGt hr h]; rfl
  | true => rw [zLt hr h]; rfl
theorem inf0 (s : Bool) {r : Nat} (h : r < INF) : Gives 27 #[fl1 (W s r), .int .i64 0] (.bool false) := by
  have := inf27 s r (Nat.le_of_lt h)
  rw [decide_eq_false (show ¬ r = INF from fun e => Nat.lt_irrefl _ (e ▸ h))] at this
  exact this
theorem inf1 (s : Bool) : Gives 27 #[fl1 (W s INF), .int .i64 0] (.bool true) := by
  have := inf27 s INF (Nat.le_refl _)
  rw [decide_eq_true rfl] at this
  exact this
theorem infp (s : Bool) : Gives 27 #[fl1 (W s INF), .int .i64 1] (.bool (!s)) := by
  have := pinf27 s INF (Nat.le_refl _)
  rw [decide_eq_true rfl, Bool.and_true] at this
  exact this
/-- y is something, x is nought. -/
theorem xNought (sy sx : Bool) {ry : Nat} (hy : ry ≤ INF) (h : 0 < ry) : SaysTrue (W sy ry) (W sx 0) := by
  have hx : 0 ≤ INF := Nat.zero_le _
  have oy := ne0 sy hy h
  have ox : (FloatKind.f64.format.order (W sx 0) 0 == some .eq) = true := by rw [zEq]; rfl
  exact w_x0 _ _ _ 0 sy (at11 _ _ _ (t_x0 _ _ _ (N24 sy hy) (N24 sx hx) oy ox (copy17 cPi2 sy ry (by decide) hy))) (N12 sy hy) (N12 sx hx) (l13 sy hy) oy ox (l14 cPi2 sy (by decide)) (l7 (W sy cPi2) (W_lt sy (by decide)))
/-- x is an infinity. -/
theorem xInf (sy sx : Bool) {ry : Nat} (hy : ry ≤ INF) (h : 0 < ry) : SaysTrue (W sy ry) (W sx INF) := by
  have hx : INF ≤ INF := Nat.le_refl _
  have oy := ne0 sy hy h
  have ox := ne0 sx hx (by decide)
  have xp := gt0 sx hx (by decide)
  have J := infp sx
  by_cases e : ry < INF
  · cases sx with
    | false => exact w_ipf _ _ _ 0 sy (at11 _ _ _ (t_ipf _ _ _ (N24 sy hy) (N24 false hx) oy ox (inf1 false) J (inf0 sy e) (copy17 0 sy ry (by decide) hy))) (N12 sy hy) (N12 false hx) (l13 sy hy) oy ox (l15t false) xp (l15f sy ry e) (l14 0 sy (by decide)) (l7 (W sy 0) (W_lt sy (by decide)))
    | true => exact w_inf _ _ _ 0 sy (at11 _ _ _ (t_inf _ _ _ (N24 sy hy) (N24 true hx) oy ox (inf1 true) J (inf0 sy e) (copy17 cPi sy ry (by decide) hy))) (N12 sy hy) (N12 true hx) (l13 sy hy) oy ox (l15t true) xp (l15f sy ry e) (l14 cPi sy (by decide)) (l7 (W sy cPi) (W_lt sy (by decide)))
  · obtain rfl : ry = INF := Nat.le_antisymm hy (Nat.le_of_not_lt e)
    cases sx with
    | false => exact w_ipi _ _ _ 0 sy (at11 _ _ _ (t_ipi _ _ _ (N24 sy hy) (N24 false hx) oy ox (inf1 false) J (inf1 sy) (copy17 cPi4 sy INF (by decide) hy))) (N12 sy hy) (N12 false hx) (l13 sy hy) oy ox (l15t false) xp (l15t sy) (l14 cPi4 sy (by decide)) (l7 (W sy cPi4) (W_lt sy (by decide)))
    | true => exact w_ini _ _ _ 0 sy (at11 _ _ _ (t_ini _ _ _ (N24 sy hy) (N24 true hx) oy ox (inf1 true) J (inf1 sy) (copy17 4612488097114038738 sy INF (by decide) hy))) (N12 sy hy) (N12 true hx) (l13 sy hy) oy ox (l15t true) xp (l15t sy) (l14 4612488097114038738 sy (by decide)) (l7 (W sy 4612488097114038738) (W_lt sy (by decide)))
/-- x is finite, y an infinity. -/
theorem yInf (sy sx : Bool) {rx : Nat} (hx : rx < INF) (h : 0 < rx) : SaysTrue (W sy INF) (W sx rx) := by
  have hy : INF ≤ INF := Nat.le_refl _
  have hx' := Nat.le_of_lt hx
  exact w_yi _ _ _ 0 sy (at11 _ _ _ (t_yi _ _ _ (N24 sy hy) (N24 sx hx') (ne0 sy hy (by decide)) (ne0 sx hx' h) (inf0 sx hx) (inf1 sy) (copy17 cPi2 sy INF (by decide) hy))) (N12 sy hy) (N12 sx hx') (l13 sy hy) (ne0 sy hy (by decide)) (ne0 sx hx' h) (l15f sx rx hx) (l15t sy) (l14 cPi2 sy (by decide)) (l7 (W sy cPi2) (W_lt sy (by decide)))
/-- At most. -/
theorem leq {r q : Nat} (hq : q ≤ INF) (h : r ≤ q) : (FloatKind.f64.format.order (W false r) q == some .lt || FloatKind.f64.format.order (W false r) q == some .eq) = true := by
  rcases Nat.lt_or_ge r q with h1 | h1
  · rw [pLt hq h1]; rfl
  · obtain rfl : r = q := Nat.le_antisymm h h1
    rw [pEq hq]; rfl
theorem geq {r q : Nat} (hr : r ≤ INF) (h : q ≤ r) : (FloatKind.f64.format.order (W false r) q == some .gt || FloatKind.f64.format.order (W false r) q == some .eq) = true := by
  rcases Nat.lt_or_ge q r with h1 | h1
  · rw [pGt hr h1]; rfl
  · obtain rfl : r = q := Nat.le_antisymm h1 h
    rw [pEq hr]; rfl
/-- Both are finite and not nought. -/
theorem plain (sy sx : Bool) {ry rx : Nat} (hy : ry < INF) (h : 0 < ry) (hx : rx < INF) (k : 0 < rx) : SaysTrue (W sy ry) (W sx rx) := by
  have hy' := Nat.le_of_lt hy
  have hx' := Nat.le_of_lt hx
  have oy := ne0 sy hy' h
  have ox := ne0 sx hx' k
  have xp := gt0 sx hx' k
  have xl := lt0 sx hx' k
  have dv := fun w => run_float_arith (P := Try.prog) w .quo 22 .f64 _ _ _ (fdiv sy sx hy hx k)
  obtain ⟨u, hu, A⟩ := atan28 (sy ^^ sx) (divR ry rx) (divR_inf _ _)
  have hu' : u ≤ INF := Nat.le_trans hu (by decide)
  cases sx with
  | false =>
    rw [Bool.xor_false] at A dv
    exact w_fr _ _ _ (W false u) sy (at11 _ _ _ (t_fr _ _ _ _ 0 (N24 sy hy') (N24 false hx') oy ox (inf0 false hx) (inf0 sy hy) dv A xl)) (N12 sy hy') (N12 false hx') (l13 sy hy') oy ox (l15f false rx hx) (l15f sy ry hy) (N12 sy hu') (l16 sy u hu') xp (leq (q := cPi2) (by decide) hu) (l13 sy hu')
  | true =>
    rw [Bool.xor_true] at A dv
    by_cases c : (!sy) = true ∨ u = 0
    · have ql : (FloatKind.f64.format.order (W (!sy) u) 0 == some .lt || FloatKind.f64.format.order (W (!sy) u) 0 == some .eq) = true := by
        rcases Nat.eq_zero_or_pos u with rfl | hp
        · rw [zEq]; rfl
        · rw [c.resolve_right (by omega), zLt hu' hp]; rfl
      obtain ⟨g, ad, hlo, hhi⟩ := left_add (!sy) hu c
      have hg : g ≤ INF := Nat.le_trans hhi (by decide)
      replace ad := fun w => run_float_arith (P := Try.prog) w .add 22 .f64 _ _ _ ad
      exact w_fl _ _ _ (W false g) sy (at11 _ _ _ (t_fla _ _ _ _ _ (N24 sy hy') (N24 true hx') oy ox (inf0 true hx) (inf0 sy hy) dv A xl ql ad)) (N12 sy hy') (N12 true hx') (l13 sy hy') oy ox (l15f true rx hx) (l15f sy ry hy) (N12 false hg) (l16 false g hg) xp (geq (q := cPi2) hg hlo) (leq (q := cPi) (by decide) hhi)
    · have c1 : (!sy) = false := by cases sy <;> simp_all
      have hp : 0 < u := by omega
      rw [c1] at A dv
      have ql : (FloatKind.f64.format.order (W false u) 0 == some .lt || FloatKind.f64.format.order (W false u) 0 == some .eq) = false := by rw [zGt hu' hp]; rfl
      obtain ⟨g, ad, hlo, hhi⟩ := left_sub hu
      have hg : g ≤ INF := Nat.le_trans hhi (by decide)
      replace ad := fun w => run_float_arith (P := Try.prog) w .sub 22 .f64 _ _ _ ad
      exact w_fl _ _ _ (W false g) sy (at11 _ _ _ (t_fls _ _ _ _ _ (N24 sy hy') (N24 true hx') oy ox (inf0 true hx) (inf0 sy hy) dv A xl ql ad)) (N12 sy hy') (N12 true hx') (l13 sy hy') oy ox (l15f true rx hx) (l15f sy ry hy) (N12 true hg) (l16 true g hg) xp (geq (q := cPi2) hg hlo) (leq (q := cPi) (by decide) hhi)
theorem walk (a0 : Nat) (a1 : Nat) (w : World) (w0 : (Lit.float .f64 a0).wf = true) (w1 : (Lit.float .f64 a1).wf = true) :
    Calls Try.prog 4 #[.float .f64 a0, .float .f64 a1] w fun e w' => e = .returned (.bool true) ∧ Below w.heap.size w w' := by
  have b0 : a0 < 18446744073709551616 := by simpa [Lit.wf] using w0
  have b1 : a1 < 18446744073709551616 := by simpa [Lit.wf] using w1
  rcases words a0 b0 with ⟨sy, ry, hy, rfl⟩ | hn
  · rcases words a1 b1 with ⟨sx, rx, hx, rfl⟩ | hn
    · rcases Nat.eq_zero_or_pos ry with rfl | h
      · exact yNought sy sx hx w
      · rcases Nat.eq_zero_or_pos rx with rfl | k
        · exact xNought sy sx hy h w
        · rcases Nat.lt_or_ge rx INF with e | e
          · rcases Nat.lt_or_ge ry INF with d | d
            · exact plain sy sx d h e k w
            · obtain rfl : ry = INF := Nat.le_antisymm hy d
              exact yInf sy sx e k w
          · obtain rfl : rx = INF := Nat.le_antisymm hx e
            exact xInf sy sx hy h w
    · exact w_nan2 _ _ _ 0 false (at11 _ _ _ (t_nan2 _ _ _ (N24 sy hy) (T24 hn) nan25)) (N12 sy hy) (T12 hn) (T12 made) w
  · exact w_nan1 _ _ _ 0 false (at11 _ _ _ (t_nan1 _ _ _ (T24 hn) nan25)) (T12 hn) (T12 made) w

set_option maxRecDepth 100000 in
theorem lifted (os : Os) (started : os.Started) (H : Type) (enc : TypeId × Value → H) :
    ReturnsInHanded {} Try.checked os 4 .any (Rows.fnAtan2SpecialCasesSpec.pre6 enc Try.prog Try.f4 Rows.fnAtan2SpecialCasesRow.domain false) (Rows.fnAtan2SpecialCasesSpec.post enc Try.prog Try.f4 false true false false) := by
  refine returnsInHanded_of_change (C := Try.checked) own started (by kernel_rfl) Try.func4
    (ChangeSpec.witness6 (enc := enc) (C := Try.checked) false ⟨#[], #[.float .f64 0, .float .f64 0], []⟩ 8 (by kernel_rfl) (by kernel_rfl) (by kernel_rfl) (by kernel_rfl)) ?_
  intro W base args ds gs before hval0 hW hcnd _
  have hval : ∀ (j : Nat) t v, Try.f4.params[j]? = some t → args[j]? = some v → Value.okWide Try.prog W .any base t v := hval0
  have hW' := hW
  obtain ⟨p, q, hA0, hV, rfl, hfz, hnd⟩ := hW
  have hA : DataW.TrodAll enc Try.prog W 0 (fun _ => true) true Try.f4.params.toList args.toList ds p := hA0
  rw [Try.params4] at hA hval
  obtain ⟨v0, vs0, d0, ds0, p0, q0, hargs, rfl, rfl, h0, r0⟩ := trodAll_cons hA
  obtain ⟨v1, vs1, d1, ds1, p1, q1, rfl, rfl, rfl, h1, r1⟩ := trodAll_cons r0
  obtain ⟨rfl, rfl, rfl⟩ := trodAll_nil r1
  obtain rfl : args = #[v0, v1] := by cases args; simp_all
  obtain ⟨rfl, rfl⟩ := trodVars_none hV
  obtain ⟨a0, rfl, rfl, rfl, w0⟩ := open_float Try.underlying22 (hval 0 22 v0 rfl rfl) h0
  obtain ⟨a1, rfl, rfl, rfl, w1⟩ := open_float Try.underlying22 (hval 1 22 v1 rfl rfl) h1
  clear hA0 hval0
  refine (walk a0 a1 W w0 w1).mono fun e W' ⟨he, bel⟩ => ?_
  subst he
  exact ⟨_, rfl, _, _, _, [], _, [], hW', trodAll_mk1 (shut_bool Try.underlying4 _), (trodAll_cons_mk (shut_float Try.underlying22 w0) (trodAll_cons_mk (shut_float Try.underlying22 w1) trodAll_mk0)), rfl, bel.frame _, fun h => by cases h⟩

theorem over : Rows.fnAtan2SpecialCasesRow.holds Try.pinned (OpenSpec.ofChange Rows.fnAtan2SpecialCasesSpec) :=
  OpenClaim.holds_of_wide 4 Try.f4 rfl rfl rfl rfl rfl rfl rfl ⟨rfl, rfl, rfl, rfl, rfl⟩ rfl rfl rfl rfl rfl (by kernel_rfl) Try.func4 (by kernel_rfl)
    (of_decide_eq_true (by kernel_rfl)) (by unfold Func.isWrapper; first | (rw [if_pos (by decide +kernel)]; kernel_rfl) | (rw [if_neg (by decide +kernel)]; exact ⟨rfl, rfl⟩))
    (fun os started H enc _ => lifted os started H enc)

/-- THE STATEMENT -/
theorem proved : Rows.FnAtan2SpecialCasesSaid := over
#print axioms proved
end Go.Proofs.Ytdiadeebboojgaa.fnAtan2SpecialCases
