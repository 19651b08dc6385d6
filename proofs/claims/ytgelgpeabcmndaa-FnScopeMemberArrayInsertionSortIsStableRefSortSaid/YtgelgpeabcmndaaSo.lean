/-
  Sorting in plain words: insertion by adjacent exchanges and merging from below give the same order.
-/
import Derived.WalkKit
namespace Go.Proofs.Ytgelgpeabcmndaa.so
set_option linter.unusedVariables false

/-- First by key, then by place. -/
def lt (K : Nat → Nat) (a b : Nat) : Prop := K a < K b ∨ (K a = K b ∧ a < b)
theorem lt.trans {K : Nat → Nat} {a b c : Nat} (h : lt K a b) (h' : lt K b c) : lt K a c := by unfold lt at *; omega
theorem lt.irrefl {K : Nat → Nat} {a : Nat} (h : lt K a a) : False := by unfold lt at h; omega
theorem lt.asymm {K : Nat → Nat} {a b : Nat} (h : lt K a b) (h' : lt K b a) : False := by unfold lt at *; omega
/-- The first n places hold numbers below n, in order. -/
def Sorted (K : Nat → Nat) (n : Nat) (p : Nat → Nat) : Prop := (∀ k, k < n → p k < n) ∧ ∀ a b, a < b → b < n → lt K (p a) (p b)
theorem nodup_le : ∀ (n : Nat) (L : List Nat), L.Nodup → (∀ x ∈ L, x < n) → L.length ≤ n
  | 0, L, _, h => by
    cases L with
    | nil => simp
    | cons a l => have := h a (by simp); omega
  | n + 1, L, hd, h => by
    by_cases hm : n ∈ L
    · have h1 := nodup_le n (L.erase n) (hd.erase n) (fun x hx => by
        have h2 := (List.Nodup.mem_erase_iff hd).1 hx
        have := h x h2.2; have := h2.1; omega)
      rw [List.length_erase_of_mem hm] at h1; omega
    · have := nodup_le n L hd (fun x hx => by
        have := h x hx
        have : x ≠ n := by rintro rfl; exact hm hx
        omega)
      omega
theorem Sorted.pair {K : Nat → Nat} {n : Nat} {p : Nat → Nat} (h : Sorted K n p) : ((List.range n).map p).Pairwise (lt K) := by
  rw [List.pairwise_iff_getElem]
  intro i j hi hj hij
  simp only [List.getElem_map, List.getElem_range]
  exact h.2 i j hij (by simpa using hj)
theorem Sorted.perm {K : Nat → Nat} {n : Nat} {p : Nat → Nat} (h : Sorted K n p) : List.Perm ((List.range n).map p) (List.range n) := by
  have hnd : ((List.range n).map p).Nodup := h.pair.imp (fun hab e => by subst e; exact hab.irrefl)
  rw [List.perm_ext_iff_of_nodup hnd List.nodup_range]
  intro v
  constructor
  · intro hv
    obtain ⟨k, hk, rfl⟩ := List.mem_map.1 hv
    exact List.mem_range.2 (h.1 k (List.mem_range.1 hk))
  · intro hv
    rw [List.mem_range] at hv
    apply Classical.byContradiction
    intro hn
    have := nodup_le n (v :: (List.range n).map p) (List.nodup_cons.2 ⟨hn, hnd⟩) (fun x hx => by
      rcases List.mem_cons.1 hx with rfl | hx
      · exact hv
      · obtain ⟨k, hk, rfl⟩ := List.mem_map.1 hx
        exact h.1 k (List.mem_range.1 hk))
    simp at this; omega
/-- There is one such order only. -/
theorem Sorted.uniq {K : Nat → Nat} {n : Nat} {p q : Nat → Nat} (hp : Sorted K n p) (hq : Sorted K n q) : ∀ k, k < n → p k = q k := by
  have e : (List.range n).map p = (List.range n).map q := List.Perm.eq_of_pairwise (le := lt K) (fun a b _ _ h h' => (h.asymm h').elim) hp.pair hq.pair (hp.perm.trans hq.perm.symm)
  intro k hk
  have := congrArg (fun l => l[k]?) e
  simpa [hk] using this
/-- Two neighbours exchanged. -/
def sw (p : Nat → Nat) (y : Nat) (k : Nat) : Nat := if k = y then p (y - 1) else if k = y - 1 then p y else p k
/-- The outer loop's state. -/
def Ins (K : Nat → Nat) (n x : Nat) (p : Nat → Nat) : Prop := (∀ k, k < x → p k < x) ∧ (∀ k, x ≤ k → p k = k) ∧ ∀ a b, a < b → b < x → lt K (p a) (p b)
/-- The inner loop's state: the element that stood at x stands at y. -/
def In2 (K : Nat → Nat) (n x y : Nat) (p : Nat → Nat) : Prop := y ≤ x ∧ p y = x ∧ (∀ k, k ≤ x → k ≠ y → p k < x) ∧ (∀ k, x < k → p k = k) ∧ (∀ a b, a < b → b ≤ x → a ≠ y → b ≠ y → lt K (p a) (p b)) ∧ ∀ b, y < b → b ≤ x → K x < K (p b)
theorem Ins.start (K : Nat → Nat) (n : Nat) : Ins K n 1 (fun k => k) := ⟨fun k h => h, fun k _ => rfl, fun a b h1 h2 => by omega⟩
theorem Ins.enter {K : Nat → Nat} {n x : Nat} {p : Nat → Nat} (h : Ins K n x p) : In2 K n x x p := by
  obtain ⟨h1, h2, h3⟩ := h
  exact ⟨Nat.le_refl _, h2 x (Nat.le_refl _), fun k hk hn => h1 k (by omega), fun k hk => h2 k (by omega), fun a b hab hb ha hb' => h3 a b hab (by omega), fun b h1 h2 => by omega⟩
theorem In2.step {K : Nat → Nat} {n x y : Nat} {p : Nat → Nat} (h : In2 K n x y p) (hy : 0 < y) (hK : K (p y) < K (p (y - 1))) : In2 K n x (y - 1) (sw p y) := by
  obtain ⟨h0, h1, h2, h3, h4, h5⟩ := h
  have e1 : sw p y y = p (y - 1) := by simp [sw]
  have e2 : sw p y (y - 1) = p y := by unfold sw; rw [if_neg (by omega), if_pos rfl]
  have e3 : ∀ k, k ≠ y → k ≠ y - 1 → sw p y k = p k := fun k a b => by unfold sw; rw [if_neg a, if_neg b]
  refine ⟨by omega, by rw [e2, h1], fun k hk hn => ?_, fun k hk => ?_, fun a b hab hb ha hb' => ?_, fun b hb hbx => ?_⟩
  · by_cases e : k = y
    · subst e; rw [e1]; exact h2 _ (by omega) (by omega)
    · rw [e3 k e hn]; exact h2 k hk e
  · rw [e3 k (by omega) (by omega)]; exact h3 k hk
  · by_cases ea : a = y
    · subst ea; rw [e1, e3 b (by omega) hb']; exact h4 _ _ (by omega) hb (by omega) (by omega)
    · rw [e3 a ea ha]
      by_cases eb : b = y
      · subst eb; rw [e1]; exact h4 _ _ (by omega) (by omega) ea (by omega)
      · rw [e3 b eb hb']; exact h4 _ _ hab hb ea eb
  · by_cases e : b = y
    · subst e; rw [e1, ← h1]; exact hK
    · rw [e3 b e (by omega)]; exact h5 b (by omega) hbx
theorem In2.leave {K : Nat → Nat} {n x y : Nat} {p : Nat → Nat} (h : In2 K n x y p) (hK : y = 0 ∨ K (p (y - 1)) ≤ K (p y)) : Ins K n (x + 1) p := by
  obtain ⟨h0, h1, h2, h3, h4, h5⟩ := h
  have hle : ∀ a, a < y → lt K (p a) (p y) := by
    intro a ha
    rcases hK with e | hK
    · omega
    · have hl : lt K (p (y - 1)) (p y) := by
        have := h2 (y - 1) (by omega) (by omega)
        unfold lt
        rw [h1] at hK ⊢
        omega
      by_cases e : a = y - 1
      · rw [e]; exact hl
      · exact (h4 a (y - 1) (by omega) (by omega) (by omega) (by omega)).trans hl
  refine ⟨fun k hk => ?_, fun k hk => h3 k (by omega), fun a b hab hb => ?_⟩
  · by_cases e : k = y
    · rw [e, h1]; omega
    · have := h2 k (by omega) e; omega
  · by_cases ea : a = y
    · subst ea; rw [h1]; left; exact h5 b hab (by omega)
    · by_cases eb : b = y
      · subst eb; exact hle a hab
      · exact h4 a b hab (by omega) ea eb
theorem Ins.done {K : Nat → Nat} {n : Nat} {p : Nat → Nat} (h : Ins K n n p) : Sorted K n p := ⟨h.1, h.2.2⟩
theorem Ins.small {K : Nat → Nat} {n : Nat} (hn : n ≤ 1) : Sorted K n (fun k => k) := ⟨fun k h => h, fun a b h1 h2 => by omega⟩
/-- Every run of w places (the last may be shorter) holds its own numbers, in order. -/
def Runs (K : Nat → Nat) (n w : Nat) (s : Nat → Nat) : Prop := ∀ m, (∀ a, m * w ≤ a → a < m * w + w → a < n → m * w ≤ s a ∧ s a < m * w + w ∧ s a < n) ∧ ∀ a b, m * w ≤ a → a < b → b < m * w + w → b < n → lt K (s a) (s b)
theorem Runs.start (K : Nat → Nat) (n : Nat) : Runs K n 1 (fun k => k) := fun m => ⟨fun a h1 h2 h3 => ⟨h1, h2, h3⟩, fun a b h1 h2 h3 h4 => by omega⟩
theorem Runs.done {K : Nat → Nat} {n w : Nat} {s : Nat → Nat} (h : Runs K n w s) (hw : n ≤ w) : Sorted K n s := by
  obtain ⟨h1, h2⟩ := h 0
  simp only [Nat.zero_mul, Nat.zero_add] at h1 h2
  exact ⟨fun k hk => (h1 k (by omega) (by omega) hk).2.2, fun a b hab hb => h2 a b (by omega) hab (by omega) hb⟩
/-- A pass: what lies below lo is merged. -/
def Pass (K : Nat → Nat) (n w lo : Nat) (t : Nat → Nat) : Prop := ∀ m, m * (2 * w) < lo → (∀ a, m * (2 * w) ≤ a → a < m * (2 * w) + 2 * w → a < n → m * (2 * w) ≤ t a ∧ t a < m * (2 * w) + 2 * w ∧ t a < n) ∧ ∀ a b, m * (2 * w) ≤ a → a < b → b < m * (2 * w) + 2 * w → b < n → lt K (t a) (t b)
theorem Pass.start (K : Nat → Nat) (n w : Nat) (t : Nat → Nat) : Pass K n w 0 t := fun m h => by omega
theorem Pass.done {K : Nat → Nat} {n w lo : Nat} {t : Nat → Nat} (h : Pass K n w lo t) (hlo : n ≤ lo) : Runs K n (2 * w) t := by
  intro m
  by_cases hm : m * (2 * w) < lo
  · exact h m hm
  · exact ⟨fun a h1 h2 h3 => by omega, fun a b h1 h2 h3 h4 => by omega⟩
/-- Inside a merge of [lo, mid) and [mid, hi): x, y are still to come, k places are laid. -/
structure Mrg (K : Nat → Nat) (s t : Nat → Nat) (lo mid hi x y k : Nat) : Prop where
  x0 : lo ≤ x
  x1 : x ≤ mid
  y0 : mid ≤ y
  y1 : y ≤ hi
  ek : k + mid = x + y
  rng : ∀ c, lo ≤ c → c < k → lo ≤ t c ∧ t c < hi
  srt : ∀ c d, lo ≤ c → c < d → d < k → lt K (t c) (t d)
  lx : ∀ c d, lo ≤ c → c < k → x ≤ d → d < mid → lt K (t c) (s d)
  ly : ∀ c d, lo ≤ c → c < k → y ≤ d → d < hi → lt K (t c) (s d)
/-- What a merge may rest on. -/
structure Two (K : Nat → Nat) (s : Nat → Nat) (lo mid hi : Nat) : Prop where
  a1 : ∀ d, lo ≤ d → d < mid → lo ≤ s d ∧ s d < mid
  a2 : ∀ d, mid ≤ d → d < hi → mid ≤ s d ∧ s d < hi
  s1 : ∀ c d, lo ≤ c → c < d → d < mid → lt K (s c) (s d)
  s2 : ∀ c d, mid ≤ c → c < d → d < hi → lt K (s c) (s d)
  m : lo ≤ mid
  h : mid ≤ hi
def setP (t : Nat → Nat) (k v : Nat) (j : Nat) : Nat := if j = k then v else t j
theorem setP_at {t : Nat → Nat} {k v : Nat} : setP t k v k = v := by simp [setP]
theorem setP_ne {t : Nat → Nat} {k v j : Nat} (h : j ≠ k) : setP t k v j = t j := by simp [setP, h]
section
variable {K s t : Nat → Nat} {lo mid hi x y k : Nat}
theorem Mrg.start (h : Two K s lo mid hi) (t : Nat → Nat) : Mrg K s t lo mid hi lo mid lo :=
  ⟨Nat.le_refl _, h.m, Nat.le_refl _, h.h, by omega, fun c a b => by omega, fun c d a b e => by omega, fun c d a b => by omega, fun c d a b => by omega⟩
theorem Mrg.takeY (h : Mrg K s t lo mid hi x y k) (hT : Two K s lo mid hi) (hy : y < hi) (hlt : x < mid → K (s y) < K (s x)) : Mrg K s (setP t k (s y)) lo mid hi x (y + 1) (k + 1) := by
  have hr := hT.a2 y h.y0 hy
  have hm := hT.m
  have h0 := h.x0; have h1 := h.x1; have h2 := h.y0; have hek := h.ek
  refine ⟨h.x0, h.x1, by omega, hy, by omega, fun c a b => ?_, fun c d a b e => ?_, fun c d a b e f => ?_, fun c d a b e f => ?_⟩
  · by_cases e : c = k
    · rw [e, setP_at]; omega
    · rw [setP_ne e]; exact h.rng c a (by omega)
  · rw [setP_ne (show c ≠ k by omega)]
    by_cases e2 : d = k
    · rw [e2, setP_at]; exact h.ly c y a (by omega) (Nat.le_refl _) hy
    · rw [setP_ne e2]; exact h.srt c d a b (by omega)
  · by_cases e2 : c = k
    · rw [e2, setP_at]
      have hxm := hlt (by omega)
      have : lt K (s y) (s x) := .inl hxm
      by_cases e3 : d = x
      · rw [e3]; exact this
      · exact this.trans (hT.s1 x d h0 (by omega) f)
    · rw [setP_ne e2]; exact h.lx c d a (by omega) e f
  · by_cases e2 : c = k
    · rw [e2, setP_at]; exact hT.s2 y d h2 (by omega) f
    · rw [setP_ne e2]; exact h.ly c d a (by omega) (by omega) f
theorem Mrg.takeX (h : Mrg K s t lo mid hi x y k) (hT : Two K s lo mid hi) (hx : x < mid) (hle : y < hi → K (s x) ≤ K (s y)) : Mrg K s (setP t k (s x)) lo mid hi (x + 1) y (k + 1) := by
  have hr := hT.a1 x h.x0 hx
  have hh := hT.h
  have h0 := h.x0; have h1 := h.x1; have h2 := h.y0; have hek := h.ek
  refine ⟨by omega, hx, h.y0, h.y1, by omega, fun c a b => ?_, fun c d a b e => ?_, fun c d a b e f => ?_, fun c d a b e f => ?_⟩
  · by_cases e : c = k
    · rw [e, setP_at]; omega
    · rw [setP_ne e]; exact h.rng c a (by omega)
  · rw [setP_ne (show c ≠ k by omega)]
    by_cases e2 : d = k
    · rw [e2, setP_at]; exact h.lx c x a (by omega) (Nat.le_refl _) hx
    · rw [setP_ne e2]; exact h.srt c d a b (by omega)
  · by_cases e2 : c = k
    · rw [e2, setP_at]; exact hT.s1 x d h0 (by omega) f
    · rw [setP_ne e2]; exact h.lx c d a (by omega) (by omega) f
  · by_cases e2 : c = k
    · rw [e2, setP_at]
      have hyh : y < hi := by omega
      have hle := hle hyh
      have hr2 := hT.a2 y h2 hyh
      have : lt K (s x) (s y) := by unfold lt; omega
      by_cases e3 : d = y
      · rw [e3]; exact this
      · exact this.trans (hT.s2 y d h2 (by omega) f)
    · rw [setP_ne e2]; exact h.ly c d a (by omega) e f
end
/-- The two runs at lo. -/
theorem Runs.two {K : Nat → Nat} {n w : Nat} {s : Nat → Nat} (h : Runs K n w s) (m : Nat) : Two K s (m * (2 * w)) (min (m * (2 * w) + w) n) (min (m * (2 * w) + 2 * w) n) ∨ n ≤ m * (2 * w) := by
  by_cases hn : n ≤ m * (2 * w)
  · exact .inr hn
  · left
    obtain ⟨h1, h2⟩ := h (2 * m)
    obtain ⟨h3, h4⟩ := h (2 * m + 1)
    have e1 : 2 * m * w = m * (2 * w) := by rw [Nat.mul_comm 2 m, Nat.mul_assoc]
    have e2 : (2 * m + 1) * w = m * (2 * w) + w := by rw [Nat.succ_mul, e1]
    rw [e1] at h1 h2
    rw [e2] at h3 h4
    generalize m * (2 * w) = lo at *
    refine ⟨fun d a b => ?_, fun d a b => ?_, fun c d a b e => h2 c d a b (by omega) (by omega), fun c d a b e => h4 c d (by omega) b (by omega) (by omega), by omega, by omega⟩
    · have := h1 d a (by omega) (by omega); omega
    · have := h3 d (by omega) (by omega) (by omega); omega
theorem Pass.step {K : Nat → Nat} {n w m : Nat} {s t t' : Nat → Nat} (h : Pass K n w (m * (2 * w)) t) (hw : 0 < w) (hlo : m * (2 * w) < n) (hM : Mrg K s t' (m * (2 * w)) (min (m * (2 * w) + w) n) (min (m * (2 * w) + 2 * w) n) (min (m * (2 * w) + w) n) (min (m * (2 * w) + 2 * w) n) (min (m * (2 * w) + 2 * w) n)) (he : ∀ j, j < m * (2 * w) → t' j = t j) : Pass K n w ((m + 1) * (2 * w)) t' := by
  intro q hq
  have e : (m + 1) * (2 * w) = m * (2 * w) + 2 * w := Nat.succ_mul _ _
  by_cases hqm : q < m
  · have hlt : q * (2 * w) + 2 * w ≤ m * (2 * w) := by
      have := Nat.mul_le_mul_right (2 * w) (show q + 1 ≤ m by omega)
      rw [Nat.succ_mul] at this; exact this
    obtain ⟨h1, h2⟩ := h q (by omega)
    refine ⟨fun a x1 x2 x3 => ?_, fun a b x1 x2 x3 x4 => ?_⟩
    · rw [he a (by omega)]; exact h1 a x1 x2 x3
    · rw [he a (by omega), he b (by omega)]; exact h2 a b x1 x2 x3 x4
  · have hqe : q = m := by
      rcases Nat.lt_or_ge m q with h1 | h1
      · have := Nat.mul_le_mul_right (2 * w) (show m + 1 ≤ q by omega)
        omega
      · omega
    subst hqe
    generalize q * (2 * w) = lo at *
    refine ⟨fun a x1 x2 x3 => ?_, fun a b x1 x2 x3 x4 => hM.srt a b x1 x2 (by omega)⟩
    have := hM.rng a x1 (by omega); omega
end Go.Proofs.Ytgelgpeabcmndaa.so
