/-
  Reading a quoted text back, in plain words.
-/
import Derived.Test.YtojckppnooaiaaaQa
namespace Go.Proofs.Ytojckppnooaiaaa.qp
set_option linter.unusedVariables false
set_option linter.unusedSimpArgs false
/-- What stands behind a back slash for one byte. -/
def Tw (e x : Int) : Prop := (e = 98 ∧ x = 8) ∨ (e = 102 ∧ x = 12) ∨ (e = 110 ∧ x = 10) ∨ (e = 114 ∧ x = 13) ∨ (e = 116 ∧ x = 9) ∨ (e = 92 ∧ x = 92) ∨ (e = 34 ∧ x = 34)
/-- No second half of a pair stands at the head of y. -/
def Nx (y : List Int) : Prop := y = [] ∨ (∃ b r, y = b :: r ∧ b ≠ 92) ∨ (∃ e r, y = 92 :: e :: r ∧ e ≠ 117)
/-- .. but for a row of digits that is no second half. -/
def Nx2 (y : List Int) : Prop := Nx y ∨ ∃ v r, y = hu v ++ r ∧ v < 65536 ∧ loS v = false
/-- Reading y gives o. -/
inductive Un (q : Nat) : List Int → List Int → Prop
  | nil : Un q [] []
  | raw {y o : List Int} (b : Nat) : 32 ≤ b → b < 256 → b ≠ 92 → ¬ (b = 34 ∧ q = 34) → Un q y o → Un q ((b : Int) :: y) ((b : Int) :: o)
  | two {y o : List Int} (e x : Int) : Tw e x → Un q y o → Un q (92 :: e :: y) (x :: o)
  | one {y o : List Int} (v : Nat) : v < 65536 → (hiS v = true → Nx y) → Un q y o → Un q (hu v ++ y) (eb v ++ o)
  | odd {r o : List Int} (v v2 : Nat) : v < 65536 → hiS v = true → v2 < 65536 → loS v2 = false → Un q (hu v2 ++ r) o → Un q (hu v ++ (hu v2 ++ r)) (eb v ++ o)
  | pair {y o : List Int} (h l : Nat) : h < 1024 → l < 1024 → Un q y o → Un q (hu (55296 + h) ++ (hu (56320 + l) ++ y)) (eb (65536 + h * 1024 + l) ++ o)
theorem Un.uni {q : Nat} {y o : List Int} (v : Nat) (hv : v < 65536) (hn : hiS v = true → Nx2 y) (h : Un q y o) : Un q (hu v ++ y) (eb v ++ o) := by
  cases hh : hiS v with
  | false => exact .one v hv (fun h => by rw [hh] at h; cases h) h
  | true =>
    rcases hn hh with hx | ⟨v2, r, rfl, h1, h2⟩
    · exact .one v hv (fun _ => hx) h
    · exact .odd v v2 hv hh h1 h2 h
theorem Un.rawN {q : Nat} {y o : List Int} (bs : List Nat) (hb : ∀ b ∈ bs, 32 ≤ b ∧ b < 256 ∧ b ≠ 92 ∧ ¬ (b = 34 ∧ q = 34)) (h : Un q y o) : Un q (bs.map (Int.ofNat ·) ++ y) (bs.map (Int.ofNat ·) ++ o) := by
  induction bs with
  | nil => exact h
  | cons b r ih =>
    obtain ⟨h1, h2, h3, h4⟩ := hb b (List.mem_cons_self ..)
    exact .raw b h1 h2 h3 h4 (ih fun x hx => hb x (List.mem_cons_of_mem _ hx))
/-- The bytes of a code point as numbers. -/
def ebn (c : Nat) : List Nat :=
  if c < 128 then [c] else if c < 2048 then [192 + c / 64, 128 + c % 64]
  else if c < 65536 then [224 + c / 4096, 128 + c / 64 % 64, 128 + c % 64]
  else [240 + c / 262144, 128 + c / 4096 % 64, 128 + c / 64 % 64, 128 + c % 64]
theorem ebn_eq (c : Nat) : (ebn c).map (Int.ofNat ·) = eb c := by
  unfold ebn eb
  repeat' split
  all_goals simp
theorem ebn_hi {c : Nat} (h0 : 128 ≤ c) (h1 : c ≤ 1114111) : ∀ b ∈ ebn c, 128 ≤ b ∧ b < 256 := by
  intro b hb
  unfold ebn at hb
  rw [if_neg (by omega)] at hb
  split at hb
  · simp at hb; omega
  · split at hb
    · simp at hb; omega
    · simp at hb; omega
theorem un_eb {q : Nat} {y o : List Int} {c : Nat} (hc : c ≤ 1114111) (hl : 128 ≤ c ∨ (32 ≤ c ∧ c ≠ 92 ∧ ¬ (c = 34 ∧ q = 34))) (h : Un q y o) : Un q (eb c ++ y) (eb c ++ o) := by
  rw [← ebn_eq]
  refine Un.rawN _ ?_ h
  intro b hb
  by_cases h0 : 128 ≤ c
  · have := ebn_hi h0 hc b hb; omega
  · unfold ebn at hb
    rw [if_pos (by omega)] at hb
    simp at hb
    omega
/-- The shapes of one line of the table. -/
theorem esc_cases (a : Bool) (q c : Nat) (hc : c ≤ 1114111) :
    (esc a q c = eb c ∧ (128 ≤ c ∨ (32 ≤ c ∧ c ≠ 92 ∧ ¬ (c = 34 ∧ q = 34))) ∧ (a = true → c < 127)) ∨
    (∃ e x, Tw e x ∧ esc a q c = [92, e] ∧ eb c = [x] ∧ c < 128) ∨
    (c < 65536 ∧ esc a q c = hu c) ∨
    (∃ h l, h < 1024 ∧ l < 1024 ∧ c = 65536 + h * 1024 + l ∧ esc a q c = hu (55296 + h) ++ hu (56320 + l)) := by
  unfold esc
  by_cases h1 : c = 92
  · rw [if_pos h1]; subst h1; exact .inr (.inl ⟨92, 92, by unfold Tw; omega, rfl, rfl, by omega⟩)
  rw [if_neg h1]
  by_cases h2 : c = 34
  · rw [if_pos h2]; subst h2
    by_cases h3 : q = 34
    · rw [if_pos h3]; exact .inr (.inl ⟨34, 34, by unfold Tw; omega, rfl, rfl, by omega⟩)
    · rw [if_neg h3]; exact .inl ⟨rfl, .inr (by omega), fun _ => by omega⟩
  rw [if_neg h2]
  by_cases h3 : c = 8
  · rw [if_pos h3]; subst h3; exact .inr (.inl ⟨98, 8, by unfold Tw; omega, rfl, rfl, by omega⟩)
  rw [if_neg h3]
  by_cases h4 : c = 12
  · rw [if_pos h4]; subst h4; exact .inr (.inl ⟨102, 12, by unfold Tw; omega, rfl, rfl, by omega⟩)
  rw [if_neg h4]
  by_cases h5 : c = 10
  · rw [if_pos h5]; subst h5; exact .inr (.inl ⟨110, 10, by unfold Tw; omega, rfl, rfl, by omega⟩)
  rw [if_neg h5]
  by_cases h6 : c = 13
  · rw [if_pos h6]; subst h6; exact .inr (.inl ⟨114, 13, by unfold Tw; omega, rfl, rfl, by omega⟩)
  rw [if_neg h6]
  by_cases h7 : c = 9
  · rw [if_pos h7]; subst h7; exact .inr (.inl ⟨116, 9, by unfold Tw; omega, rfl, rfl, by omega⟩)
  rw [if_neg h7]
  by_cases h8 : c < 32
  · rw [if_pos h8]; exact .inr (.inr (.inl ⟨by omega, rfl⟩))
  rw [if_neg h8]
  by_cases h9 : c < 127
  · rw [if_pos h9]; exact .inl ⟨by unfold eb; rw [if_pos (by omega)], .inr (by omega), fun _ => h9⟩
  rw [if_neg h9]
  by_cases h10 : a = true ∨ c = 65279 ∨ (55296 ≤ c ∧ c ≤ 57343)
  · rw [if_pos h10]
    by_cases h11 : c ≤ 65535
    · rw [if_pos h11]; exact .inr (.inr (.inl ⟨by omega, rfl⟩))
    · rw [if_neg h11]; exact .inr (.inr (.inr ⟨(c - 65536) / 1024, (c - 65536) % 1024, by omega, by omega, by omega, rfl⟩))
  · rw [if_neg h10]
    exact .inl ⟨rfl, by omega, fun h => absurd (.inl h) h10⟩
theorem un_step {a : Bool} {q : Nat} {y o : List Int} {c : Nat} (hc : c ≤ 1114111) (hn : hiS c = true → Nx2 y) (h : Un q y o) : Un q (esc a q c ++ y) (eb c ++ o) := by
  rcases esc_cases a q c hc with ⟨e, h1, _⟩ | ⟨e, x, ht, e1, e2, _⟩ | ⟨h1, e⟩ | ⟨h', l, h1, h2, rfl, e⟩
  · rw [e]; exact un_eb hc h1 h
  · rw [e1, e2]; exact .two e x ht h
  · rw [e]; exact .uni c h1 hn h
  · rw [e, List.append_assoc]; exact .pair h' l h1 h2 h
theorem nx_step {a : Bool} {q : Nat} {c : Nat} (hc : c ≤ 1114111) (hl : loS c = false) (y : List Int) : Nx2 (esc a q c ++ y) := by
  rcases esc_cases a q c hc with ⟨e, h1, _⟩ | ⟨e, x, ht, e1, e2, _⟩ | ⟨h1, e⟩ | ⟨h', l, h1, h2, rfl, e⟩
  · rw [e]
    left; right; left
    rw [← ebn_eq]
    unfold ebn
    by_cases h0 : c < 128
    · rw [if_pos h0]; exact ⟨(c : Int), y, rfl, by omega⟩
    rw [if_neg h0]
    by_cases h3 : c < 2048
    · rw [if_pos h3]; exact ⟨_, _, rfl, by show ((192 + c / 64 : Nat) : Int) ≠ 92; omega⟩
    rw [if_neg h3]
    by_cases h4 : c < 65536
    · rw [if_pos h4]; exact ⟨_, _, rfl, by show ((224 + c / 4096 : Nat) : Int) ≠ 92; omega⟩
    rw [if_neg h4]; exact ⟨_, _, rfl, by show ((240 + c / 262144 : Nat) : Int) ≠ 92; omega⟩
  · rw [e1]; exact .inl (.inr (.inr ⟨e, y, rfl, by unfold Tw at ht; omega⟩))
  · rw [e]; exact .inr ⟨c, y, rfl, h1, hl⟩
  · rw [e, List.append_assoc]; exact .inr ⟨_, _, rfl, by omega, by unfold loS; simp; omega⟩
theorem un_ou (a : Bool) (q : Nat) (p : Bool) (L : List Nat) (hL : ∀ c ∈ L, c ≤ 1114111) (hp : np p L) : Un q (ou a q L) (L.flatMap eb) := by
  induction L generalizing p with
  | nil => exact .nil
  | cons c r ih =>
    have hp2 : np (hiS c) r := hp.2
    unfold ou
    rw [List.flatMap_cons, List.flatMap_cons]
    refine un_step (hL c (List.mem_cons_self ..)) ?_ (ih (hiS c) (fun x hx => hL x (List.mem_cons_of_mem _ hx)) hp2)
    intro hh
    cases r with
    | nil => exact .inl (.inl rfl)
    | cons d r =>
      rw [List.flatMap_cons]
      refine nx_step (hL d (by simp)) ?_ _
      cases hd : loS d with
      | false => rfl
      | true => exact absurd ⟨hh, hd⟩ hp2.1
theorem Ch.top {s : ByteArray} {i : Nat} {ds : List Nat} (h : Ch s i ds) : ∀ c ∈ ds, c ≤ 1114111 := by
  induction ds generalizing i with
  | nil => intro c hc; cases hc
  | cons d r ih =>
    obtain ⟨n, h1, h2⟩ := h
    intro c hc
    rcases List.mem_cons.1 hc with rfl | hc
    · exact h1.n.2.2.2
    · exact ih h2 c hc
/-- Printable ASCII. -/
def Pr (x : Int) : Prop := 32 ≤ x ∧ x ≤ 126
theorem hx_pr {d : Nat} (h : d < 16) : Pr (hx d) := by
  unfold hx Pr
  split <;> omega
theorem hu_pr (v : Nat) : ∀ x ∈ hu v, Pr x := by
  intro x hx'
  unfold hu at hx'
  simp only [List.mem_cons, List.not_mem_nil, or_false] at hx'
  rcases hx' with rfl | rfl | rfl | rfl | rfl | rfl
  · unfold Pr; omega
  · unfold Pr; omega
  all_goals exact hx_pr (by omega)
theorem esc_pr (q c : Nat) (hc : c ≤ 1114111) : ∀ x ∈ esc true q c, Pr x := by
  intro x hx'
  rcases esc_cases true q c hc with ⟨e, h1, h2⟩ | ⟨e, x, ht, e1, e2, _⟩ | ⟨h1, e⟩ | ⟨h', l, h1, h2, rfl, e⟩
  · have := h2 rfl
    rw [e, eb, if_pos (by omega)] at hx'
    simp at hx'
    unfold Pr; omega
  · rw [e1] at hx'
    simp at hx'
    unfold Tw at ht
    unfold Pr; omega
  · rw [e] at hx'; exact hu_pr _ x hx'
  · rw [e, List.mem_append] at hx'
    rcases hx' with hx' | hx' <;> exact hu_pr _ x hx'
theorem ou_pr (q : Nat) (L : List Nat) (hL : ∀ c ∈ L, c ≤ 1114111) : ∀ x ∈ ou true q L, Pr x := by
  intro x hx'
  unfold ou at hx'
  obtain ⟨c, h1, h2⟩ := List.mem_flatMap.1 hx'
  exact esc_pr q c (hL c h1) x h2
/-- Reading makes no text longer. -/
theorem Un.len {q : Nat} {y o : List Int} (h : Un q y o) : o.length ≤ y.length := by
  induction h with
  | nil => simp
  | raw b _ _ _ _ _ ih => simp; omega
  | two e x _ _ ih => simp; omega
  | one v _ _ _ ih => have := eb_len v; simp [hu_len]; omega
  | odd v v2 _ _ _ _ _ ih => have := eb_len v; simp [hu_len] at ih ⊢; omega
  | pair h l _ _ _ ih => have := eb_len (65536 + h * 1024 + l); simp [hu_len]; omega
/-- The value that a row of digits has. -/
theorem hu_val {v : Nat} (h : v < 65536) : ((v / 4096 % 16 * 16 + v / 256 % 16) * 16 + v / 16 % 16) * 16 + v % 16 = v := by omega
theorem drop_get {Y y : List Int} {i : Nat} (h : Y.drop i = y) (j : Nat) : Y.getD (i + j) 0 = y.getD j 0 := by
  rw [List.getD_eq_getElem?_getD, List.getD_eq_getElem?_getD, ← h, List.getElem?_drop]
theorem drop_len {Y y : List Int} {i : Nat} (h : Y.drop i = y) (hi : i ≤ Y.length) : Y.length = i + y.length := by
  rw [← h, List.length_drop]; omega
theorem drop_on {Y y z : List Int} {i n : Nat} (h : Y.drop i = y ++ z) (hn : y.length = n) : Y.drop (i + n) = z := by
  rw [← List.drop_drop, h, ← hn]; simp
end Go.Proofs.Ytojckppnooaiaaa.qp
