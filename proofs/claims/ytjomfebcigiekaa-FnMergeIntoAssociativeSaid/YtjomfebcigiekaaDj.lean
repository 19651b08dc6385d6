/-
  Deferred errors: the argument opened.
-/
import Derived.Test.YtjomfebcigiekaaDi
import Derived.ChangeArms
import Derived.Deep.Slices
import Derived.Deep.Fields
import Derived.ChangeSame
import Derived.OpenShut

namespace Go.Proofs.Ytjomfebcigiekaa.de
open Go.ChangeShapes Go.WideShapes Go.ChangeAt Go.RowKit Go.Deep
set_option linter.unusedVariables false
set_option linter.unusedSimpArgs false
set_option linter.unnecessarySimpa false
set_option maxRecDepth 100000
set_option maxHeartbeats 1000000
theorem two_ints {H : Type} {enc : TypeId × Value → H} {W : World} {base fuel : Nat} {u0 u1 : Value} {x : DataW H × List MemPlace} (ht' : DataW.trod enc Try.prog W base (fun _ => true) true fuel 28 [u0, u1] = some x) :
    ∃ n0 n1 : Int, u0 = .int .i32 n0 ∧ u1 = .int .i32 n1 := by
  obtain ⟨xs, k, _, _, _, hlen, hg⟩ := DataW.trod_struct Try.underlying28 ht'
  have hx : ∀ (i : Nat), i < 2 → ∃ y, xs[i]? = some y := fun i hi => ⟨xs[i]'(by rw [hlen]; exact hi), List.getElem?_eq_getElem _⟩
  have g0 : ∃ y, DataW.trod enc Try.prog W base (fun _ => true) true k 21 [u0] = some y := by
    obtain ⟨y, hy⟩ := hx 0 (by omega)
    exact ⟨y, (hg 0 _ rfl).trans hy⟩
  have g1 : ∃ y, DataW.trod enc Try.prog W base (fun _ => true) true k 21 [u1] = some y := by
    obtain ⟨y, hy⟩ := hx 1 (by omega)
    exact ⟨y, (hg 1 _ rfl).trans hy⟩
  obtain ⟨y0, g0⟩ := g0
  obtain ⟨y1, g1⟩ := g1
  obtain ⟨n0, h0, _, _⟩ := DataW.trod_int Try.underlying21 g0
  obtain ⟨n1, h1, _, _⟩ := DataW.trod_int Try.underlying21 g1
  exact ⟨n0, n1, by simpa using h0, by simpa using h1⟩
theorem row_of_cells {H : Type} {enc : TypeId × Value → H} {W : World} {base : Nat} {t : TypeId} {fuel : Nat} {cs : List Value} {x : DataW H × List MemPlace} (ht : Try.prog.underlying t = some (.slice 28)) (h : DataW.trod enc Try.prog W base (fun _ => true) true fuel t cs = some x) :
    ∃ (a : Option Addr) (n c : Nat) (z : Nat → Int), cs = [.slice a n c] ∧ n ≤ maxLen ∧ (a = none → n = 0 ∧ c = 0) ∧ Row W a (n * 2) (zc z) := by
  rcases open_slice ht h with ⟨rfl, _⟩ | ⟨a, len, cap, m, n, D, Pl, hcs, hb, hl, hm, hmm, hx, hi⟩
  · exact ⟨none, 0, 0, fun _ => 0, rfl, by unfold maxLen; omega, fun _ => ⟨rfl, rfl⟩, fun h => by omega⟩
  · have hC : Try.prog.cellsOf 28 = 2 := by kernel_rfl
    rw [hC] at hi
    have hcell : ∀ q, ∃ v : Int, q < cap * 2 → W.cell? (a.add q) = some (.int .i32 v) := by
      intro q
      by_cases hq : q < cap * 2
      · obtain ⟨cs', hc, ht'⟩ := hi (q / 2) (by rw [hmm]; simp; omega)
        obtain ⟨_, hcl, hat⟩ := World.cells?_some hc
        obtain ⟨l⟩ : Nonempty (List Value) := ⟨cs'⟩
        match cs', hcl with
        | [u0, u1], _ =>
          obtain ⟨xs, k, _, _, _, hlen, hg⟩ := DataW.trod_struct Try.underlying28 ht'
          have hx : ∀ (i : Nat), i < 2 → ∃ y, xs[i]? = some y := fun i hi => ⟨xs[i]'(by rw [hlen]; exact hi), List.getElem?_eq_getElem _⟩
          have g0 : ∃ y, DataW.trod enc Try.prog W base (fun _ => true) true k 21 [u0] = some y := by
            obtain ⟨y, hy⟩ := hx 0 (by omega)
            exact ⟨y, (hg 0 _ rfl).trans hy⟩
          have g1 : ∃ y, DataW.trod enc Try.prog W base (fun _ => true) true k 21 [u1] = some y := by
            obtain ⟨y, hy⟩ := hx 1 (by omega)
            exact ⟨y, (hg 1 _ rfl).trans hy⟩
          obtain ⟨y0, g0⟩ := g0
          obtain ⟨y1, g1⟩ := g1
          obtain ⟨n0, h0, _, _⟩ := DataW.trod_int Try.underlying21 g0
          obtain ⟨n1, h1, _, _⟩ := DataW.trod_int Try.underlying21 g1
          have k0 := hat 0 (by omega)
          have k1 := hat 1 (by omega)
          rw [Go.Deep.add_add] at k0 k1
          have hp : q % 2 = 0 ∨ q % 2 = 1 := by omega
          rcases hp with hp | hp
          · refine ⟨n0, fun _ => ?_⟩
            rw [show q = q / 2 * 2 + 0 by omega, k0]
            simpa using h0
          · refine ⟨n1, fun _ => ?_⟩
            rw [show q = q / 2 * 2 + 1 by omega, k1]
            simpa using h1
      · exact ⟨0, fun h => absurd h hq⟩
    exact ⟨some a, len, cap, fun q => Classical.choose (hcell q), hcs, by omega, (fun h => by cases h), Row.of_cells (V := zc fun q => Classical.choose (hcell q)) (m := cap * 2) (by omega) fun i hi => Classical.choose_spec (hcell i) hi⟩
theorem def_open {H : Type} {enc : TypeId × Value → H} {W : World} {base : Nat} {r : Reach} {b0 : Nat} {v : Value} {d : DataW H} {pl : List MemPlace} (hv : Value.okWide Try.prog W r b0 31 v) (h : DataW.Trod enc Try.prog W base (fun _ => true) true 31 v d pl) :
    ∃ (p : Nat → Int) (a : Option Addr) (n c : Nat) (z : Nat → Int), v = .agg (dA p a n c) ∧ n ≤ maxLen ∧ (a = none → n = 0 ∧ c = 0) ∧ Row W a (n * 2) (zc z) := by
  obtain ⟨cs, rfl, hsz⟩ := okWide_struct Try.underlying31 hv
  obtain ⟨l⟩ := cs
  have hC : Try.prog.cellsOf 31 = 7 := by kernel_rfl
  match l, hsz.trans hC with
  | [v0, v1, v2, v3, v4, v5, v6], _ =>
    obtain ⟨fuel, hf⟩ := h
    obtain ⟨xs, m, _, _, _, hlen, hg⟩ := DataW.trod_struct Try.underlying31 hf
    have hx : ∀ (i : Nat), i < 4 → ∃ y, xs[i]? = some y := fun i hi => ⟨xs[i]'(by rw [hlen]; exact hi), List.getElem?_eq_getElem _⟩
    have e0 : ∃ y, DataW.trod enc Try.prog W base (fun _ => true) true m 28 [v0, v1] = some y := by
      obtain ⟨y, hy⟩ := hx 0 (by omega)
      exact ⟨y, (hg 0 _ rfl).trans hy⟩
    obtain ⟨y0, e0⟩ := e0
    obtain ⟨i0, i1, rfl, rfl⟩ := two_ints e0
    have e1 : ∃ y, DataW.trod enc Try.prog W base (fun _ => true) true m 28 [v2, v3] = some y := by
      obtain ⟨y, hy⟩ := hx 1 (by omega)
      exact ⟨y, (hg 1 _ rfl).trans hy⟩
    obtain ⟨y1, e1⟩ := e1
    obtain ⟨i2, i3, rfl, rfl⟩ := two_ints e1
    have e2 : ∃ y, DataW.trod enc Try.prog W base (fun _ => true) true m 28 [v4, v5] = some y := by
      obtain ⟨y, hy⟩ := hx 2 (by omega)
      exact ⟨y, (hg 2 _ rfl).trans hy⟩
    obtain ⟨y2, e2⟩ := e2
    obtain ⟨i4, i5, rfl, rfl⟩ := two_ints e2
    have e3 : ∃ y, DataW.trod enc Try.prog W base (fun _ => true) true m 29 [v6] = some y := by
      obtain ⟨y, hy⟩ := hx 3 (by omega)
      exact ⟨y, (hg 3 _ rfl).trans hy⟩
    obtain ⟨y3, e3⟩ := e3
    obtain ⟨a, n, c, z, hcs, hn, hnil, hr⟩ := row_of_cells Try.underlying29 e3
    obtain rfl : v6 = .slice a n c := by simpa using hcs
    exact ⟨fun i => [i0, i1, i2, i3, i4, i5].getD i 0, a, n, c, z, rfl, hn, hnil, hr⟩
theorem mp_assoc (pa pb pc : Nat → Int) (a : Option Addr) (n c : Nat) : dA (mp pb (mp pa pc)) a n c = dA (mp (mp pb pa) pc) a n c := by
  refine dA_eq ?_ ?_ ?_ ?_ ?_ ?_ <;> (simp only [mp]; split <;> simp_all)
theorem cat_assoc (zc za zb : Nat → Int) (nc na : Nat) : cat (cat zc nc za) (nc + na) zb = cat zc nc (cat za na zb) := by
  funext i
  unfold cat
  by_cases h1 : i < nc * 2
  · rw [if_pos (by omega), if_pos h1, if_pos h1]
  · by_cases h2 : i < (nc + na) * 2
    · rw [if_pos h2, if_neg h1, if_neg h1, if_pos (by omega)]
    · rw [if_neg h2, if_neg (show ¬ i - nc * 2 < na * 2 by omega), if_neg h1]
      rw [show i - nc * 2 - na * 2 = i - (nc + na) * 2 by omega]
end Go.Proofs.Ytjomfebcigiekaa.de
