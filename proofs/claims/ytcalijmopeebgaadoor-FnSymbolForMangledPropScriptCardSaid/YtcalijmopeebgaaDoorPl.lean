/-
  Mangled properties: the plain law.
-/
import Derived.Test.YtcalijmopeebgaaDoorHp
namespace Go.Proofs.YtcalijmopeebgaaDoor.mp
open Go.ChangeShapes Go.WideShapes Go.ChangeAt Go.RowKit Go.Deep Go.Proofs.YtcalijmopeebgaaDoor.mk
set_option linter.unusedVariables false
set_option linter.unusedSimpArgs false

/-- The symbols after the names V a, .., V (a + k - 1), .. : here after V 0 .. V (k - 1). -/
def runL (dead : Bool) (V : Nat → ByteArray) : Nat → List (ByteArray × Nat)
  | 0 => []
  | k + 1 => next dead (runL dead V k) (V k)
open Classical in
/-- How often s is among V 0 .. V (k - 1). -/
noncomputable def cntV (V : Nat → ByteArray) (s : ByteArray) : Nat → Nat
  | 0 => 0
  | k + 1 => cntV V s k + if V k = s then 1 else 0
theorem cntV_le (V : Nat → ByteArray) (s : ByteArray) : ∀ k, cntV V s k ≤ k
  | 0 => Nat.le_refl _
  | k + 1 => by have := cntV_le V s k; unfold cntV; split <;> omega
theorem pos_lt {L : List (ByteArray × Nat)} {s : ByteArray} {k : Nat} (h : pos L s = some k) : k < L.length := by
  obtain ⟨u, hu⟩ := pos_some h
  rcases Nat.lt_or_ge k L.length with h | h
  · exact h
  · rw [List.getElem?_eq_none h] at hu; cases hu
theorem pos_stepL (dead : Bool) (L : List (ByteArray × Nat)) (k : Nat) (s : ByteArray) : pos (stepL dead L k) s = pos L s := by
  unfold stepL; split
  · rfl
  · exact pos_modify L k s
theorem len_stepL (dead : Bool) (L : List (ByteArray × Nat)) (k : Nat) : (stepL dead L k).length = L.length := by
  unfold stepL; split
  · rfl
  · exact List.length_modify ..
theorem pos_next (dead : Bool) (L : List (ByteArray × Nat)) (s s' : ByteArray) : pos (next dead L s) s' = if s' = s then some (idx L s) else pos L s' := by
  unfold next
  rw [pos_stepL]
  unfold add idx
  rcases hp : pos L s with _ | k
  · simp only [Option.getD_none]; exact pos_snoc L s 0 hp s'
  · simp only [Option.getD_some]
    by_cases e : s' = s
    · subst e; rw [if_pos rfl, hp]
    · rw [if_neg e]
theorem pos_next_self (dead : Bool) (L : List (ByteArray × Nat)) (s : ByteArray) : pos (next dead L s) s = some (idx L s) := by rw [pos_next, if_pos rfl]
/-- Once there, a name keeps its place. -/
theorem pos_next_keep {dead : Bool} {L : List (ByteArray × Nat)} {s s' : ByteArray} {k : Nat} (h : pos L s' = some k) : pos (next dead L s) s' = some k := by
  rw [pos_next]
  by_cases e : s' = s
  · subst e; rw [if_pos rfl]; simp [idx, h]
  · rw [if_neg e, h]
theorem pos_run_keep {dead : Bool} {V : Nat → ByteArray} {s : ByteArray} {k i : Nat} (h : pos (runL dead V i) s = some k) : ∀ j, pos (runL dead V (i + j)) s = some k
  | 0 => h
  | j + 1 => pos_next_keep (pos_run_keep h j)
theorem len_next_le (dead : Bool) (L : List (ByteArray × Nat)) (s : ByteArray) : L.length ≤ (next dead L s).length ∧ (next dead L s).length ≤ L.length + 1 := by
  unfold next
  rw [len_stepL]
  unfold add
  split
  · omega
  · simp
theorem len_next_old {dead : Bool} {L : List (ByteArray × Nat)} {s : ByteArray} {k : Nat} (h : pos L s = some k) : (next dead L s).length = L.length := by
  unfold next
  rw [len_stepL]
  unfold add
  rw [h]
theorem len_run (dead : Bool) (V : Nat → ByteArray) : ∀ k, (runL dead V k).length ≤ k
  | 0 => Nat.le_refl _
  | k + 1 => by have := len_run dead V k; have := (len_next_le dead (runL dead V k) (V k)).2; simp only [runL]; omega
theorem get_stepL (dead : Bool) (L : List (ByteArray × Nat)) (k j : Nat) : (stepL dead L k)[j]? = (L[j]?).map (fun x => if dead = false ∧ j = k then incU x else x) := by
  unfold stepL
  cases dead
  · simp only [Bool.false_eq_true, if_false, List.getElem?_modify, true_and]
    by_cases e : k = j
    · subst e; simp
    · have e2 : ¬ j = k := fun h => e h.symm
      simp [e, e2]
  · simp
theorem get_add (L : List (ByteArray × Nat)) (s : ByteArray) (j : Nat) : (add L s)[j]? = if j = L.length ∧ pos L s = none then some (s, 0) else L[j]? := by
  unfold add
  rcases hp : pos L s with _ | k
  · simp only [and_true]
    by_cases e : j = L.length
    · subst e; simp
    · rw [if_neg e]
      rcases Nat.lt_or_ge j L.length with h | h
      · exact List.getElem?_append_left h
      · rw [List.getElem?_eq_none h, List.getElem?_eq_none (by simp; omega)]
  · simp
/-- What is where, after one name: the names before are where they were; the uses of this one grow by one. -/
theorem get_next {dead : Bool} {L : List (ByteArray × Nat)} {s : ByteArray} {j : Nat} {s' : ByteArray} {u : Nat} (hd : ∀ (i j : Nat) (s : ByteArray) (u v : Nat), L[i]? = some (s, u) → L[j]? = some (s, v) → i = j) (h : (next dead L s)[j]? = some (s', u)) :
    (s' = s ∧ j = idx L s ∧ ((∃ v, L[j]? = some (s, v) ∧ u = if dead then v else v + 1) ∨ (pos L s = none ∧ u = if dead then 0 else 1))) ∨ (s' ≠ s ∧ L[j]? = some (s', u)) := by
  unfold next at h
  rw [get_stepL, get_add] at h
  rcases hp : pos L s with _ | k
  · have hi : idx L s = L.length := by simp [idx, hp]
    rw [hi, hp] at h
    by_cases e : j = L.length
    · subst e
      simp only [and_self, if_true, Option.map_some, Option.some.injEq, and_true] at h
      left
      cases dead <;> simp [incU] at h <;> obtain ⟨rfl, rfl⟩ := h <;> simp [hi]
    · simp only [e, false_and, if_false, and_false] at h
      have hL : L[j]? = some (s', u) := by simpa using h
      right
      refine ⟨fun e2 => ?_, hL⟩
      subst e2
      have : L.findIdx? (fun x => x.1 == s') = none := hp
      rw [List.findIdx?_eq_none_iff] at this
      have := this (s', u) (List.mem_of_getElem? hL)
      simp only at this
      rw [(bytes_beq s' s').2 rfl] at this; cases this
  · have hi : idx L s = k := by simp [idx, hp]
    obtain ⟨v, hv⟩ := pos_some hp
    rw [hi, hp] at h
    simp only [reduceCtorEq, and_false, if_false] at h
    by_cases e : j = k
    · subst e
      rw [hv] at h
      left
      cases dead <;> simp [incU] at h <;> obtain ⟨rfl, rfl⟩ := h <;> simp [hi, hv]
    · simp only [e, and_false, if_false] at h
      have hL : L[j]? = some (s', u) := by simpa using h
      right
      refine ⟨fun e2 => ?_, hL⟩
      subst e2
      exact e (hd _ _ _ _ _ hL hv)
/-- The invariant: no name twice; each name's uses; the names are those that came. -/
structure GoodL (dead : Bool) (V : Nat → ByteArray) (k : Nat) (L : List (ByteArray × Nat)) : Prop where
  one : ∀ (i j : Nat) (s : ByteArray) (u v : Nat), L[i]? = some (s, u) → L[j]? = some (s, v) → i = j
  use : ∀ (i : Nat) (s : ByteArray) (u : Nat), L[i]? = some (s, u) → u = if dead then 0 else cntV V s k
  none : ∀ (s : ByteArray), pos L s = none → cntV V s k = 0
theorem good (dead : Bool) (V : Nat → ByteArray) : ∀ k, GoodL dead V k (runL dead V k)
  | 0 => ⟨by simp [runL], by simp [runL], by simp [cntV]⟩
  | k + 1 => by
    have g := good dead V k
    generalize hL : runL dead V k = L at g
    have hr : runL dead V (k + 1) = next dead L (V k) := by simp only [runL]; rw [hL]
    rw [hr]
    refine ⟨fun i j s u v h1 h2 => ?_, fun i s u h => ?_, fun s h => ?_⟩
    · rcases get_next g.one h1 with ⟨e, hi, _⟩ | ⟨e, hi⟩
      · rcases get_next g.one h2 with ⟨_, hj, _⟩ | ⟨e2, _⟩
        · omega
        · exact absurd e e2
      · rcases get_next g.one h2 with ⟨e2, _, _⟩ | ⟨_, hj⟩
        · exact absurd e2 e
        · exact g.one _ _ _ _ _ hi hj
    · rcases get_next g.one h with ⟨rfl, hi, ⟨v, hv, hu⟩ | ⟨hn, hu⟩⟩ | ⟨e, hi⟩
      · have := g.use _ _ _ hv
        simp only [cntV, if_true]
        cases dead <;> simp at this hu ⊢ <;> omega
      · have := g.none _ hn
        simp only [cntV, if_true]
        cases dead <;> simp at hu ⊢ <;> omega
      · have := g.use _ _ _ hi
        simp only [cntV, if_neg (fun h : V k = s => e h.symm)]
        exact this
    · rw [pos_next] at h
      by_cases e : s = V k
      · rw [if_pos e] at h; cases h
      · rw [if_neg e] at h
        have := g.none _ h
        simp only [cntV, if_neg (fun h : V k = s => e h.symm)]
        omega
theorem use_le {dead : Bool} {V : Nat → ByteArray} {k : Nat} {x : ByteArray × Nat} (h : x ∈ runL dead V k) : x.2 ≤ k := by
  obtain ⟨i, hi⟩ := List.mem_iff_getElem?.1 h
  have := (good dead V k).use i x.1 x.2 hi
  have := cntV_le V x.1 k
  cases dead <;> simp at * <;> omega
/-- The names of a longer run at places of the shorter one. -/
theorem name_keep {dead : Bool} {V : Nat → ByteArray} {i k : Nat} {s : ByteArray} {u : Nat} (h : (runL dead V i)[k]? = some (s, u)) (j : Nat) : ∃ v, (runL dead V (i + j))[k]? = some (s, v) := by
  have hp : pos (runL dead V i) s = some k := by
    rcases hp : pos (runL dead V i) s with _ | q
    · have : (runL dead V i).findIdx? (fun x => x.1 == s) = none := hp
      rw [List.findIdx?_eq_none_iff] at this
      have := this (s, u) (List.mem_of_getElem? h)
      simp only at this
      rw [(bytes_beq s s).2 rfl] at this; cases this
    · obtain ⟨v, hv⟩ := pos_some hp
      rw [(good dead V i).one _ _ _ _ _ h hv]
  exact pos_some (pos_run_keep hp j)
end Go.Proofs.YtcalijmopeebgaaDoor.mp
