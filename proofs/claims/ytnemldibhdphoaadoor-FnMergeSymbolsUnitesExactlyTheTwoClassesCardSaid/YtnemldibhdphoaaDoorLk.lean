/-
  Link tables in plain words: roots, reach, and what a merge of two chains does to them.
-/
import Derived.WalkKit
namespace Go.Proofs.YtnemldibhdphoaaDoor.lk
set_option linter.unusedVariables false

/-- The root of i is r, d links away. -/
inductive Dp (l : Nat → Option Nat) : Nat → Nat → Nat → Prop
  | here {i : Nat} : l i = none → Dp l i i 0
  | step {i j r d : Nat} : l i = some j → Dp l j r d → Dp l i r (d + 1)
def Rt (l : Nat → Option Nat) (i r : Nat) : Prop := ∃ d, Dp l i r d
/-- k is reached from i in m links. -/
inductive Rn (l : Nat → Option Nat) : Nat → Nat → Nat → Prop
  | here {i : Nat} : Rn l i i 0
  | step {i j k m : Nat} : l i = some j → Rn l j k m → Rn l i k (m + 1)
def Rc (l : Nat → Option Nat) (i k : Nat) : Prop := ∃ m, Rn l i k m
section
variable {l l' : Nat → Option Nat} {n i j k r r' s x y z d d' m : Nat}
theorem Dp.uniq (h : Dp l i r d) : ∀ {r' d' : Nat}, Dp l i r' d' → r = r' ∧ d = d' := by
  induction h with
  | here h =>
    intro r' d' h'
    cases h' with
    | here => exact ⟨rfl, rfl⟩
    | step h2 _ => rw [h] at h2; cases h2
  | step h _ ih =>
    intro r' d' h'
    cases h' with
    | here h2 => rw [h] at h2; cases h2
    | step h2 h3 =>
      rw [h] at h2; cases h2
      obtain ⟨rfl, rfl⟩ := ih h3
      exact ⟨rfl, rfl⟩
theorem Rt.uniq (h : Rt l i r) (h' : Rt l i r') : r = r' := by
  obtain ⟨_, h⟩ := h; obtain ⟨_, h'⟩ := h'; exact (h.uniq h').1
theorem Dp.root (h : Dp l i r d) : l r = none := by
  induction h with
  | here h => exact h
  | step _ _ ih => exact ih
theorem Rt.root (h : Rt l i r) : l r = none := by obtain ⟨_, h⟩ := h; exact h.root
theorem Rt.self (h : l i = none) : Rt l i i := ⟨0, .here h⟩
theorem Dp.along (hr : Rn l i x m) : ∀ {r d : Nat}, Dp l i r d → ∃ d', d = d' + m ∧ Dp l x r d' := by
  induction hr with
  | here => intro r d h; exact ⟨d, rfl, h⟩
  | step h _ ih =>
    intro r d hd
    cases hd with
    | here h2 => rw [h] at h2; cases h2
    | step h2 h3 =>
      rw [h] at h2; cases h2
      obtain ⟨d', rfl, h4⟩ := ih h3
      exact ⟨d', by omega, h4⟩
theorem Dp.back (hr : Rn l i x m) (h : Dp l x r d) : Dp l i r (d + m) := by
  induction hr with
  | here => exact h
  | step h2 _ ih => exact .step h2 (ih h)
theorem Rt.along (h : Rt l i r) (hr : Rc l i x) : Rt l x r := by
  obtain ⟨d, h⟩ := h; obtain ⟨m, hr⟩ := hr
  obtain ⟨d', _, h2⟩ := h.along hr
  exact ⟨d', h2⟩
theorem Rt.back (hr : Rc l i x) (h : Rt l x r) : Rt l i r := by
  obtain ⟨d, h⟩ := h; obtain ⟨m, hr⟩ := hr
  exact ⟨_, h.back hr⟩
theorem Rn.snoc (h : Rn l i x m) : ∀ {y : Nat}, l x = some y → Rn l i y (m + 1) := by
  induction h with
  | here => intro y hy; exact .step hy .here
  | step h2 _ ih => intro y hy; exact .step h2 (ih hy)
theorem Rc.refl : Rc l i i := ⟨0, .here⟩
theorem Rc.step (h : l i = some j) (h2 : Rc l j k) : Rc l i k := by obtain ⟨m, h2⟩ := h2; exact ⟨_, .step h h2⟩
theorem Rc.snoc (h : Rc l i x) (hy : l x = some y) : Rc l i y := by obtain ⟨m, h⟩ := h; exact ⟨_, h.snoc hy⟩
/-- The table with y's link turned to x. -/
def up (l : Nat → Option Nat) (y x : Nat) : Nat → Option Nat := fun i => if i = y then some x else l i
theorem up_at : up l y x y = some x := by simp [up]
theorem up_ne (h : i ≠ y) : up l y x i = l i := by simp [up, h]
theorem Rc.up {g : Nat} (h : Rc l i g) (z : Nat) : Rc (up l z g) i g := by
  obtain ⟨m, h⟩ := h
  induction h with
  | here => exact .refl
  | @step i j k m h _ ih =>
    by_cases e : i = z
    · subst e; exact .step up_at .refl
    · exact .step (by rw [up_ne e]; exact h) ih
/-- A link turned to something further down the same chain keeps every root. -/
theorem Rt.short (hy : l y = some z) (hz : Rc l z x) : ∀ d i r, Dp l i r d → Rt (lk.up l y x) i r := by
  intro d
  induction d using Nat.strongRecOn with
  | ind d ih =>
    intro i r h
    by_cases e : i = y
    · subst e
      cases h with
      | here h2 => rw [hy] at h2; cases h2
      | step h2 h3 =>
        rw [hy] at h2; cases h2
        obtain ⟨m, hz⟩ := hz
        obtain ⟨d', hd, h4⟩ := h3.along hz
        obtain ⟨e2, h5⟩ := ih d' (by omega) _ _ h4
        exact ⟨_, .step up_at h5⟩
    · cases h with
      | here h2 => exact Rt.self (by rw [up_ne e]; exact h2)
      | step h2 h3 =>
        obtain ⟨e2, h5⟩ := ih _ (by omega) _ _ h3
        exact ⟨_, .step (by rw [up_ne e]; exact h2) h5⟩
theorem Rt.join {o w : Nat} (ho : l o = none) (hw : l w = none) (hne : o ≠ w) (h : Dp l i r d) : Rt (lk.up l o w) i (if r = o then w else r) := by
  have hw' : lk.up l o w w = none := by rw [up_ne (fun e => hne e.symm)]; exact hw
  induction h with
  | @here i h2 =>
    by_cases e : i = o
    · subst e; rw [if_pos rfl]; exact ⟨1, .step up_at (.here hw')⟩
    · rw [if_neg e]; exact Rt.self (by rw [up_ne e]; exact h2)
  | @step i j r d h2 _ ih =>
    have e : i ≠ o := by rintro rfl; rw [ho] at h2; cases h2
    obtain ⟨d, ih⟩ := ih
    exact ⟨_, .step (by rw [up_ne e]; exact h2) ih⟩
/-- What a merge has done. -/
def Mg (n : Nat) (l l' : Nat → Option Nat) (old new ro rn got : Nat) : Prop :=
  (∀ i r, Rt l i r → Rt l' i (if r = ro then rn else r)) ∧ Rc l' old got ∧ Rc l' new got ∧ (∀ y z, l y = some z → l' y = some z ∨ l' y = some got) ∧ (∀ i j, i < n → l' i = some j → j < n) ∧ got < n
def Fits (n : Nat) (l : Nat → Option Nat) : Prop := ∀ i j, i < n → l i = some j → j < n
theorem Fits.up (h : Fits n l) (hx : x < n) : Fits n (lk.up l y x) := by
  intro i j hi hj
  by_cases e : i = y
  · subst e; rw [up_at] at hj; cases hj; exact hx
  · rw [up_ne e] at hj; exact h i j hi hj
theorem Mg.same {a ra : Nat} (hF : Fits n l) (ha : a < n) (h : Rt l a ra) : Mg n l l a a ra ra a :=
  ⟨fun i r hr => by split <;> simp_all, .refl, .refl, fun y z h => .inl h, hF, ha⟩
theorem Mg.old {old new o' ro rn got : Nat} (hl : l old = some o') (h : Mg n l l' o' new ro rn got) : Mg n l (lk.up l' old got) old new ro rn got := by
  obtain ⟨h1, h2, h3, h4, h5, h6⟩ := h
  have hB : ∀ i r, Rt l' i r → Rt (lk.up l' old got) i r := by
    rintro i r ⟨d, hd⟩
    rcases h4 old o' hl with e | e
    · exact Rt.short e h2 d i r hd
    · exact Rt.short e .refl d i r hd
  refine ⟨fun i r hr => hB _ _ (h1 i r hr), .step up_at .refl, h3.up _, fun y z hy => ?_, Fits.up h5 h6, h6⟩
  by_cases e : y = old
  · subst e; exact .inr up_at
  · rw [up_ne e]; exact h4 y z hy
theorem Mg.new {old new n' ro rn got : Nat} (hl : l new = some n') (h : Mg n l l' old n' ro rn got) : Mg n l (lk.up l' new got) old new ro rn got := by
  obtain ⟨h1, h2, h3, h4, h5, h6⟩ := h
  have hB : ∀ i r, Rt l' i r → Rt (lk.up l' new got) i r := by
    rintro i r ⟨d, hd⟩
    rcases h4 new n' hl with e | e
    · exact Rt.short e h3 d i r hd
    · exact Rt.short e .refl d i r hd
  refine ⟨fun i r hr => hB _ _ (h1 i r hr), h2.up _, .step up_at .refl, fun y z hy => ?_, Fits.up h5 h6, h6⟩
  by_cases e : y = new
  · subst e; exact .inr up_at
  · rw [up_ne e]; exact h4 y z hy
theorem Mg.both {old new : Nat} (hF : Fits n l) (hn : new < n) (ho : l old = none) (hw : l new = none) (hne : old ≠ new) : Mg n l (lk.up l old new) old new old new new := by
  refine ⟨fun i r ⟨d, hr⟩ => Rt.join ho hw hne hr, .step up_at .refl, .refl, fun y z hy => ?_, hF.up hn, hn⟩
  by_cases e : y = old
  · subst e; rw [ho] at hy; cases hy
  · rw [up_ne e]; exact .inl hy
/-- A list of different numbers below n is no longer than n. -/
theorem nodup_le : ∀ (n : Nat) (L : List Nat), L.Nodup → (∀ x ∈ L, x < n) → L.length ≤ n
  | 0, L, _, h => by
    cases L with
    | nil => simp
    | cons a l => have := h a (by simp); omega
  | n + 1, L, hd, h => by
    by_cases hm : n ∈ L
    · have h1 := nodup_le n (L.erase n) (hd.erase n) (fun x hx => by
        have h2 := (List.Nodup.mem_erase_iff hd).1 hx
        have := h x h2.2; have := h2.1; omega)
      rw [List.length_erase_of_mem hm] at h1; omega
    · have := nodup_le n L hd (fun x hx => by
        have := h x hx
        have : x ≠ n := by rintro rfl; exact hm hx
        omega)
      omega
/-- The nodes from i to its root. -/
theorem Dp.nodes (hF : Fits n l) (h : Dp l i r d) : i < n → ∃ L : List Nat, L.length = d + 1 ∧ (∀ x ∈ L, x < n) ∧ L.Nodup ∧ ∀ x ∈ L, ∃ e, e ≤ d ∧ Dp l x r e := by
  induction h with
  | @here i h => intro hi; exact ⟨[i], rfl, by simpa using hi, by simp, fun x hx => by rw [List.mem_singleton.1 hx]; exact ⟨0, Nat.le_refl _, .here h⟩⟩
  | @step i j r d h h2 ih =>
    intro hi
    obtain ⟨L, e1, e2, e3, e4⟩ := ih (hF i j hi h)
    refine ⟨i :: L, by simp [e1], ?_, ?_, ?_⟩
    · intro x hx
      rcases List.mem_cons.1 hx with rfl | hx
      · exact hi
      · exact e2 x hx
    · refine List.nodup_cons.2 ⟨fun hx => ?_, e3⟩
      obtain ⟨e, he, h3⟩ := e4 i hx
      have := (h3.uniq (.step h h2)).2
      omega
    · intro x hx
      rcases List.mem_cons.1 hx with rfl | hx
      · exact ⟨_, Nat.le_refl _, .step h h2⟩
      · obtain ⟨e, he, h3⟩ := e4 x hx
        exact ⟨e, by omega, h3⟩
theorem Dp.lt (hF : Fits n l) (hi : i < n) (h : Dp l i r d) : d < n := by
  obtain ⟨L, e1, e2, e3, _⟩ := h.nodes hF hi
  have := nodup_le n L e3 e2
  omega
theorem Dp.fits (hF : Fits n l) (h : Dp l i r d) : i < n → r < n := by
  induction h with
  | here => exact id
  | @step i j r d h _ ih => intro hi; exact ih (hF i j hi h)
/-- What has a root is left behind in fewer than n links. -/
theorem Rn.lt (hF : Fits n l) (hi : i < n) (h : Rt l i r) (hr : Rn l i x m) : m < n := by
  obtain ⟨d, h⟩ := h
  obtain ⟨d', e, _⟩ := h.along hr
  have := h.lt hF hi
  omega
end
end Go.Proofs.YtnemldibhdphoaaDoor.lk
