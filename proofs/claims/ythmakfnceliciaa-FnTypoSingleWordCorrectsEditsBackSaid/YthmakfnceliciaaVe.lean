/-
  UTF-8 in plain words: code points at byte level.
-/
import Derived.Test.YthmakfnceliciaaVa
namespace Go.Proofs.Ythmakfnceliciaa.u8
set_option linter.unusedVariables false
set_option linter.unusedSimpArgs false
/-- A well-formed code point of n bytes stands at place i. -/
def Rb (s : ByteArray) (i n : Nat) : Prop := i + n ≤ s.size ∧ ((n = 1 ∧ bt s i < 128) ∨ ∃ lo hi, Tb (bt s i) n lo hi ∧ lo ≤ bt s (i + 1) ∧ bt s (i + 1) ≤ hi ∧ ∀ k, 2 ≤ k → k < n → 128 ≤ bt s (i + k) ∧ bt s (i + k) ≤ 191)
theorem Rb.ok {s : ByteArray} {i n : Nat} (h : Rb s i n) : Ok s i ∧ (Utf8.decode s i).2 = n := by
  obtain ⟨hs, ⟨rfl, h1⟩ | ⟨lo, hi, hT, h1, h2, h3⟩⟩ := h
  · exact ok1 h1
  · exact okT hT hs h1 h2 h3
theorem dec_cases (s : ByteArray) (i : Nat) : Utf8.decode s i = (Utf8.runeError, 1) ∨ (bt s i < 128 ∧ (Utf8.decode s i).2 = 1) ∨
    (i + 1 < s.size ∧ bt s i / 32 = 6 ∧ bt s (i + 1) / 64 = 2 ∧ 128 ≤ (bt s i % 32) * 64 + bt s (i + 1) % 64 ∧ (Utf8.decode s i).2 = 2) ∨
    (i + 2 < s.size ∧ bt s i / 16 = 14 ∧ bt s (i + 1) / 64 = 2 ∧ bt s (i + 2) / 64 = 2 ∧ 2048 ≤ (bt s i % 16) * 4096 + (bt s (i + 1) % 64) * 64 + bt s (i + 2) % 64 ∧ GoodR ((bt s i % 16) * 4096 + (bt s (i + 1) % 64) * 64 + bt s (i + 2) % 64) ∧ (Utf8.decode s i).2 = 3) ∨
    (i + 3 < s.size ∧ bt s i / 8 = 30 ∧ bt s (i + 1) / 64 = 2 ∧ bt s (i + 2) / 64 = 2 ∧ bt s (i + 3) / 64 = 2 ∧ 65536 ≤ (bt s i % 8) * 262144 + (bt s (i + 1) % 64) * 4096 + (bt s (i + 2) % 64) * 64 + bt s (i + 3) % 64 ∧ GoodR ((bt s i % 8) * 262144 + (bt s (i + 1) % 64) * 4096 + (bt s (i + 2) % 64) * 64 + bt s (i + 3) % 64) ∧ (Utf8.decode s i).2 = 4) := by
  simp only [Utf8.decode, Nat.add_zero, show ∀ k, (s.get! k).toNat = bt s k from fun _ => rfl]
  by_cases h1 : bt s i < 128
  · rw [if_pos h1]; exact .inr (.inl ⟨h1, rfl⟩)
  rw [if_neg h1]
  split
  · rename_i h2
    simp only [Bool.and_eq_true, beq_iff_eq, decide_eq_true_eq] at h2
    split
    · exact .inr (.inr (.inl ⟨h2.2.1, h2.1, h2.2.2, by omega, rfl⟩))
    · exact .inl rfl
  split
  · rename_i h2
    simp only [Bool.and_eq_true, beq_iff_eq, decide_eq_true_eq] at h2
    split
    · rename_i h3
      simp only [Bool.and_eq_true, decide_eq_true_eq, Utf8.valid, Bool.or_eq_true] at h3
      refine .inr (.inr (.inr (.inl ⟨h2.2.1, h2.1.1, h2.1.2.2, h2.2.2, by omega, ?_, rfl⟩)))
      unfold GoodR; omega
    · exact .inl rfl
  split
  · rename_i h2
    simp only [Bool.and_eq_true, beq_iff_eq, decide_eq_true_eq] at h2
    split
    · rename_i h3
      simp only [Bool.and_eq_true, decide_eq_true_eq, Utf8.valid, Bool.or_eq_true] at h3
      refine .inr (.inr (.inr (.inr ⟨h2.2.1, h2.1.1.1, h2.1.1.2.2, h2.1.2.2, h2.2.2, by omega, ?_, rfl⟩)))
      unfold GoodR; omega
    · exact .inl rfl
  · exact .inl rfl
theorem Ok.rb {s : ByteArray} {i : Nat} (h : Ok s i) (hi : i < s.size) : Rb s i (Utf8.decode s i).2 := by
  have b0 := bt_lt s i
  have b1 := bt_lt s (i + 1)
  have b2 := bt_lt s (i + 2)
  have b3 := bt_lt s (i + 3)
  rcases dec_cases s i with h0 | ⟨h1, h2⟩ | ⟨h1, h2, h3, h4, h5⟩ | ⟨h1, h2, h3, h4, h5, h6, h7⟩ | ⟨h1, h2, h3, h4, h5, h6, h7, h8⟩
  · have := h.2
    rw [h0] at this
    exact absurd this (by decide)
  · rw [h2]
    exact ⟨by omega, .inl ⟨rfl, h1⟩⟩
  · rw [h5]
    exact ⟨by omega, .inr ⟨128, 191, by unfold Tb; omega, by omega, by omega, fun k _ _ => by omega⟩⟩
  · rw [h7]
    unfold GoodR at h6
    have hk : ∀ k, 2 ≤ k → k < 3 → 128 ≤ bt s (i + k) ∧ bt s (i + k) ≤ 191 := fun k _ _ => by
      obtain rfl : k = 2 := by omega
      omega
    refine ⟨by omega, .inr ?_⟩
    by_cases e0 : bt s i = 224
    · exact ⟨160, 191, by unfold Tb; omega, by omega, by omega, hk⟩
    by_cases e1 : bt s i = 237
    · exact ⟨128, 159, by unfold Tb; omega, by omega, by omega, hk⟩
    · exact ⟨128, 191, by unfold Tb; omega, by omega, by omega, hk⟩
  · rw [h8]
    unfold GoodR at h7
    have hk : ∀ k, 2 ≤ k → k < 4 → 128 ≤ bt s (i + k) ∧ bt s (i + k) ≤ 191 := fun k _ _ => by
      have : k = 2 ∨ k = 3 := by omega
      rcases this with rfl | rfl <;> omega
    refine ⟨by omega, .inr ?_⟩
    by_cases e0 : bt s i = 240
    · exact ⟨144, 191, by unfold Tb; omega, by omega, by omega, hk⟩
    by_cases e1 : bt s i = 244
    · exact ⟨128, 143, by unfold Tb; omega, by omega, by omega, hk⟩
    · exact ⟨128, 191, by unfold Tb; omega, by omega, by omega, hk⟩
theorem Rb.copy {s s' : ByteArray} {i j n : Nat} (h : Rb s i n) (hs : j + n ≤ s'.size) (he : ∀ k, k < n → bt s' (j + k) = bt s (i + k)) : Rb s' j n := by
  obtain ⟨_, ⟨rfl, h1⟩ | ⟨lo, hi, hT, h1, h2, h3⟩⟩ := h
  · exact ⟨hs, .inl ⟨rfl, by have := he 0 (by omega); simp only [Nat.add_zero] at this; omega⟩⟩
  · have hn := hT.n
    have e0 := he 0 (by omega)
    have e1 := he 1 (by omega)
    simp only [Nat.add_zero] at e0
    exact ⟨hs, .inr ⟨lo, hi, e0 ▸ hT, by omega, by omega, fun k k2 kn => by rw [he k kn]; exact h3 k k2 kn⟩⟩
theorem Rb.pos {s : ByteArray} {i n : Nat} (h : Rb s i n) : 1 ≤ n ∧ n ≤ 4 := by
  obtain ⟨_, ⟨rfl, h1⟩ | ⟨lo, hi, hT, h1, h2, h3⟩⟩ := h
  · omega
  · have := hT.n; omega
/-- The width that the first byte tells. -/
def wdt (b : Nat) : Nat := if b < 128 then 1 else if b < 224 then 2 else if b < 240 then 3 else 4
theorem wdt_of {s : ByteArray} {i n : Nat} (h : Rb s i n) : wdt (bt s i) = n := by
  unfold wdt
  obtain ⟨_, ⟨rfl, h1⟩ | ⟨lo, hi, hT, h1, h2, h3⟩⟩ := h
  · rw [if_pos h1]
  · unfold Tb at hT
    repeat' split
    all_goals omega
/-- The bytes of a string. -/
theorem bt_list (s : ByteArray) (i : Nat) (h : i < s.size) : (s.data.toList[i]?).map UInt8.toNat = some (bt s i) := by
  rw [← bt_at s i h]
  have h' : i < s.data.size := h
  rw [Array.getElem?_toList, Array.getElem?_eq_getElem h']
  rfl
theorem bt_eq {s s' : ByteArray} {i j : Nat} (hi : i < s.size) (hj : j < s'.size) (h : s.data.toList[i]? = s'.data.toList[j]?) : bt s i = bt s' j := by
  have h1 := bt_list s i hi
  rw [h, bt_list s' j hj] at h1
  exact (Option.some.inj h1).symm
theorem len_list (s : ByteArray) : s.data.toList.length = s.size := by simp
theorem eq_list {s s' : ByteArray} (h : s.data.toList = s'.data.toList) : s = s' := by
  cases s; cases s'
  simp only [ByteArray.mk.injEq]
  exact Array.toList_inj.1 h
/-- The string without n bytes at place i. -/
def cut (s : ByteArray) (i n : Nat) : ByteArray := s.extract 0 i ++ s.extract (i + n) s.size
theorem list_extract (s : ByteArray) (a b : Nat) (h : b ≤ s.size) : (s.extract a b).data.toList = (s.data.toList.drop a).take (b - a) := by
  simp [ByteArray.data_extract]
theorem list_append (a b : ByteArray) : (a ++ b).data.toList = a.data.toList ++ b.data.toList := by
  simp [ByteArray.data_append]
theorem list_from (s : ByteArray) (a : Nat) : (s.extract a s.size).data.toList = s.data.toList.drop a := by
  rw [list_extract s a s.size (Nat.le_refl _), List.take_of_length_le]
  rw [List.length_drop, len_list]
  exact Nat.le_refl _
theorem list_to (s : ByteArray) (b : Nat) (h : b ≤ s.size) : (s.extract 0 b).data.toList = s.data.toList.take b := by
  rw [list_extract s 0 b h, List.drop_zero, Nat.sub_zero]
theorem list_cut (s : ByteArray) (i n : Nat) (h : i ≤ s.size) : (cut s i n).data.toList = s.data.toList.take i ++ s.data.toList.drop (i + n) := by
  unfold cut
  rw [list_append, list_to s i h, list_from]
/-- The walk over s goes as that over w while it is among bytes that both share. -/
theorem pl_same {s w : ByteArray} {p : Nat} (hpre : ∀ k, k < pl w p → s.data.toList[k]? = w.data.toList[k]?) (hw : ∀ u, u < p → Rb w (pl w u) (Utf8.decode w (pl w u)).2) (hs : pl w p ≤ s.size) :
    ∀ u, u ≤ p → pl s u = pl w u ∧ ∀ v, v < u → Rb s (pl s v) (Utf8.decode s (pl s v)).2 := by
  intro u
  induction u with
  | zero => exact fun _ => ⟨rfl, fun v hv => by omega⟩
  | succ u ih =>
    intro hu
    obtain ⟨h1, h2⟩ := ih (by omega)
    have hr := hw u (by omega)
    have hle : pl w u + (Utf8.decode w (pl w u)).2 ≤ pl w p := pl_mono w (t := u + 1) hu
    have hc : Rb s (pl w u) (Utf8.decode w (pl w u)).2 := hr.copy (by omega) fun k hk => bt_eq (by omega) (by have := hr.1; omega) (hpre _ (by omega))
    have hd := hc.ok.2
    refine ⟨?_, fun v hv => ?_⟩
    · show pl s u + (Utf8.decode s (pl s u)).2 = pl w u + (Utf8.decode w (pl w u)).2
      rw [h1, hd]
    · by_cases e : v = u
      · subst e; rw [h1, hd]; exact hc
      · exact h2 v (by omega)
/-- A string that begins as w up to the p-th code point, and goes on with the code point E. -/
theorem pl_next {s w : ByteArray} {p n : Nat} (hpre : ∀ k, k < pl w p → s.data.toList[k]? = w.data.toList[k]?) (hw : ∀ u, u < p → Rb w (pl w u) (Utf8.decode w (pl w u)).2) (hE : Rb s (pl w p) n) :
    pl s p = pl w p ∧ (Utf8.decode s (pl s p)).2 = n ∧ ∀ v, v ≤ p → Ok s (pl s v) ∧ pl s v < s.size := by
  obtain ⟨h1, h2⟩ := pl_same hpre hw (by have := hE.1; omega) p (Nat.le_refl _)
  have hn := hE.pos
  refine ⟨h1, by rw [h1]; exact hE.ok.2, fun v hv => ?_⟩
  have hm := pl_mono s hv
  refine ⟨?_, by have := hE.1; omega⟩
  by_cases e : v = p
  · subst e; rw [h1]; exact hE.ok.1
  · exact (h2 v (by omega)).ok.1
end Go.Proofs.Ythmakfnceliciaa.u8
