/-
  The law's own sort of a row of integers, walked.
-/
import Derived.Test.YtfnicbfdfceagaaFmtLn
namespace Go.Proofs.YtfnicbfdfceagaaFmt.lg
open Go.ChangeShapes Go.WideShapes Go.ChangeAt Go.RowKit Go.Deep
set_option linter.unusedVariables false
set_option linter.unusedSimpArgs false
set_option maxRecDepth 100000
set_option maxHeartbeats 4000000
/-- The row holds the integers xs. -/
structure IR (w : World) (rb : Nat) (xs : List Int) : Prop where
  c : ∀ i (h : i < xs.length), w.cell? ⟨rb, i, none⟩ = some (i64 xs[i])
  z : ∀ q, w.frozen? ⟨rb, q, none⟩ = false
theorem IR.of_block {w w' : World} {rb : Nat} {xs : List Int} (h : IR w rb xs) (e : w'.heap[rb]? = w.heap[rb]?) : IR w' rb xs :=
  ⟨fun i hi => (World.cell?_of_block (a := ⟨rb, i, none⟩) e).trans (h.c i hi), fun q => (World.frozen?_of_block (a := ⟨rb, q, none⟩) e).trans (h.z q)⟩
theorem IR.set {w : World} {rb : Nat} {xs : List Int} (h : IR w rb xs) (i : Nat) (x : Int) : IR (w.setCell ⟨rb, i, none⟩ (i64 x)) rb (xs.set i x) := by
  refine ⟨fun j hj => ?_, fun q => by rw [World.frozen?_setCell]; exact h.z q⟩
  rw [List.length_set] at hj
  by_cases e : i = j
  · subst e
    rw [List.getElem_set_self]
    exact World.cell?_setCell_same _ _ _ (h.c i hj)
  · rw [List.getElem_set_ne e]
    exact (World.cell?_setCell_other _ ⟨rb, i, none⟩ ⟨rb, j, none⟩ _ (off_ne e)).trans (h.c j hj)
theorem swapI (M : List Int) (i j : Nat) (hi : i < M.length) (hj : j < M.length) : ((M.set i M[j]).set j M[i]).Perm M := by
  have h := Array.swap_perm (xs := M.toArray) (i := i) (j := j) (by simpa using hi) (by simpa using hj)
  have e : (M.toArray.swap i j (by simpa using hi) (by simpa using hj)).toList = (M.set i M[j]).set j M[i] := by simp
  rw [← e]
  have := Array.perm_iff_toList_perm.1 h
  simpa using this
/-- In order up to place i, place j aside. -/
def Ord (ys : List Int) (i j : Nat) : Prop := ∀ a b (hb : b < ys.length) (hab : a < b), b < i → b ≠ j → ys[a]'(by omega) ≤ ys[b]
theorem Ord.step {ys : List Int} {i j : Nat} (h : Ord ys i (j + 1)) (hj : j + 1 < ys.length) (hi : j + 1 < i) (hlt : ys[j + 1] < ys[j]) : Ord ((ys.set j ys[j + 1]).set (j + 1) ys[j]) i j := by
  intro a b hb hab hbi hbj
  simp only [List.length_set] at hb
  by_cases e1 : b = j + 1
  · subst e1
    rw [List.getElem_set_self]
    rw [List.getElem_set_ne (by omega)]
    by_cases e2 : a = j
    · subst e2; rw [List.getElem_set_self]; omega
    · rw [List.getElem_set_ne (by omega)]
      exact h a j (by omega) (by omega) (by omega) (by omega)
  · rw [List.getElem_set_ne (i := j + 1) (j := b) (by omega), List.getElem_set_ne (i := j) (j := b) (by omega)]
    by_cases e2 : a = j + 1
    · subst e2
      rw [List.getElem_set_self]
      exact h j b (by omega) (by omega) hbi (by omega)
    · rw [List.getElem_set_ne (i := j + 1) (j := a) (by omega)]
      by_cases e3 : a = j
      · subst e3; rw [List.getElem_set_self]; exact h (a + 1) b (by omega) (by omega) hbi (by omega)
      · rw [List.getElem_set_ne (by omega)]; exact h a b hb (by omega) hbi (by omega)
theorem Ord.close {ys : List Int} {i j : Nat} (h : Ord ys i j) (hle : ∀ (h1 : 0 < j) (h2 : j < ys.length), ys[j - 1] ≤ ys[j]) : Ord ys i i := by
  intro a b hb hab hbi _
  by_cases e : b = j
  · subst e
    by_cases e2 : a = b - 1
    · subst e2; exact hle (by omega) hb
    · exact Int.le_trans (h a (b - 1) (by omega) (by omega) (by omega) (by omega)) (hle (by omega) hb)
  · exact h a b hb hab hbi e
def Srtd (ys : List Int) : Prop := ∀ a b (hb : b < ys.length) (hab : a < b), ys[a]'(by omega) ≤ ys[b]
theorem Srtd.uniq {xs ys : List Int} (h : Srtd xs) (k : Srtd ys) (p : xs.Perm ys) : xs = ys := by
  refine List.Perm.eq_of_pairwise (le := (· ≤ ·)) (fun a b _ _ h1 h2 => Int.le_antisymm h1 h2) ?_ ?_ p
  · rw [List.pairwise_iff_getElem]; intro i j hi hj hij; exact h i j hj hij
  · rw [List.pairwise_iff_getElem]; intro i j hi hj hij; exact k i j hj hij
def SI (w : World) (rb : Nat) (xs : List Int) (wr : World) (ys : List Int) : Prop := ys.Perm xs ∧ IR wr rb ys ∧ Touch (fun k => k = rb) w wr
theorem SI.drew {w : World} {rb : Nat} {xs : List Int} {wr : World} {ys : List Int} (h : SI w rb xs wr ys) : SI w rb xs wr.drew ys := ⟨h.1, h.2.1.of_block rfl, h.2.2.drew⟩
theorem SI.swap {w : World} {rb : Nat} {xs : List Int} {wr : World} {ys : List Int} (h : SI w rb xs wr ys) (j : Nat) (hj : j + 1 < ys.length) : SI w rb xs ((wr.setCell ⟨rb, j, none⟩ (i64 ys[j + 1])).setCell ⟨rb, j + 1, none⟩ (i64 ys[j])) ((ys.set j ys[j + 1]).set (j + 1) ys[j]) :=
  ⟨(swapI ys j (j + 1) (by omega) hj).trans h.1, (h.2.1.set j _).set (j + 1) _, (h.2.2.setCell ⟨rb, j, none⟩ (fun _ => rfl) _).setCell ⟨rb, j + 1, none⟩ (fun _ => rfl) _⟩
def SortIP (w : World) (rb : Nat) (xs : List Int) (e : Ending) (w' : World) : Prop := e = .returned (.tuple #[]) ∧ ∃ ys, SI w rb xs w' ys ∧ Srtd ys
def RSo (w : World) (rb : Nat) (xs : List Int) (v : Value) (wr : World) : Prop := ∃ i : Nat, v = i64 i ∧ 1 ≤ i ∧ i ≤ xs.length + 1 ∧ ∃ ys, SI w rb xs wr ys ∧ Ord ys i i
def RSi (w : World) (rb : Nat) (xs : List Int) (i : Nat) (v : Value) (wr : World) : Prop := ∃ j : Nat, v = i64 j ∧ j ≤ i ∧ ∃ ys, SI w rb xs wr ys ∧ Ord ys (i + 1) j
theorem sort19 (w : World) (rb cap : Nat) (xs : List Int) (h : IR w rb xs) (hn : xs.length ≤ 1048576) : Calls Tryf.prog 19 #[sl (some ⟨rb, 0, none⟩) xs.length cap] w (SortIP w rb xs) := by
  have H := Lib.hid h
  clear h
  go_enter Tryf.func19, Tryf.ntmps19
  go_wp2_with fail
  go_loopw [2] (RSo w rb xs) (fun v _ => xs.length + 1 - (intOf v).toNat)
  case atStart => exact ⟨1, rfl, Nat.le_refl _, by omega, xs, ⟨List.Perm.refl _, H.out, Touch.refl _ _⟩, fun a b hb hab h1 _ => by omega⟩
  case round =>
    obtain ⟨i, rfl, hi1, hi2, ys, hsi, hord⟩ := hrel
    have HS := Lib.hid hsi
    have HO := Lib.hid hord
    clear hsi hord
    by_cases hlt : i < xs.length
    · go_wp2_with fail
      go_loopw [3] (RSi w rb xs i) (fun v _ => (intOf v).toNat)
      case atStart => exact ⟨i, rfl, Nat.le_refl _, ys, HS.out, fun a b hb hab h1 h2 => HO.out a b hb hab (by omega) h2⟩
      case round =>
        obtain ⟨j, rfl, hj, zs, hsi, hord⟩ := hrel
        have hlen := hsi.1.length_eq
        have HS2 := Lib.hid hsi
        have HO2 := Lib.hid hord
        clear hsi hord
        by_cases hj0 : j = 0
        · subst hj0
          go_wp2_with fail
          go_region
          go_wp2_with fail
          go_roundw
          case rel => exact ⟨i + 1, by go_num, by omega, by omega, zs, HS2.out.drew, HO2.out.close (fun h _ => absurd h (by omega))⟩
          case measure => simp [intOf]; omega
        · obtain ⟨j, rfl⟩ : ∃ k, j = k + 1 := ⟨j - 1, by omega⟩
          clear hj0
          have a0 := HS2.out.2.1.c j (by omega)
          have a1 := HS2.out.2.1.c (j + 1) (by omega)
          have b0 := HS2.out.2.1.z j
          have b1 := HS2.out.2.1.z (j + 1)
          obtain ⟨x, hx⟩ : ∃ x, zs[j] = x := ⟨_, rfl⟩
          obtain ⟨y, hy⟩ : ∃ y, zs[j + 1] = y := ⟨_, rfl⟩
          rw [hx] at a0
          rw [hy] at a1
          have HXY := Lib.hid (And.intro hx hy)
          clear hx hy
          by_cases hc : y < x
          · go_wp2_with fail
            go_region
            go_wp2_with fail
            go_roundw
            case rel =>
              refine ⟨j, by go_num, by omega, _, ?_, HO2.out.step (by omega) (by omega) (by rw [HXY.out.1, HXY.out.2]; exact hc)⟩
              have := HS2.out.drew.swap j (by omega)
              rw [HXY.out.1, HXY.out.2] at this ⊢
              exact this
            case measure => simp [intOf]
          · go_wp2_with fail
            go_region
            go_wp2_with fail
            go_roundw
            case rel => exact ⟨i + 1, by go_num, by omega, by omega, zs, HS2.out.drew, HO2.out.close (fun _ _ => by have h1 := HXY.out.1; have h2 := HXY.out.2; simp only [Nat.add_sub_cancel]; rw [h1, h2]; omega)⟩
            case measure => simp [intOf]; omega
    · go_wp2_with fail
      go_end0
      refine ⟨rfl, ys, HS.out, fun a b hb hab => HO.out a b hb hab ?_ ?_⟩ <;> (have := HS.out.1.length_eq; omega)
end Go.Proofs.YtfnicbfdfceagaaFmt.lg
