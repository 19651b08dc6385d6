/-
  UTF-8 in plain words: what the decoder answers at a well-formed place.
-/
import Derived.WalkKit
namespace Go.Proofs.Ythmakfnceliciaa.u8
set_option linter.unusedVariables false
set_option linter.unusedSimpArgs false
def bt (s : ByteArray) (i : Nat) : Nat := (s.get! i).toNat
theorem bt_lt (s : ByteArray) (i : Nat) : bt s i < 256 := (s.get! i).toNat_lt
theorem bt_at (s : ByteArray) (i : Nat) (h : i < s.size) : (s[i]'h).toNat = bt s i := by
  have e : s.get! i = s[i]'h := by
    show s.get! i = _
    simp [ByteArray.get!, getElem!_pos, h]
    rfl
  unfold bt
  rw [e]
theorem dec1 {s : ByteArray} {i : Nat} (h : bt s i < 128) : Utf8.decode s i = (bt s i, 1) := by
  have h' : (s.get! i).toNat < 128 := h
  simp only [Utf8.decode, Nat.add_zero]
  rw [if_pos h']
  rfl
theorem dec2 {s : ByteArray} {i : Nat} (h0 : 194 ≤ bt s i) (h0' : bt s i ≤ 223) (hs : i + 1 < s.size) (h1 : 128 ≤ bt s (i + 1)) (h1' : bt s (i + 1) ≤ 191) : Utf8.decode s i = (bt s i % 32 * 64 + bt s (i + 1) % 64, 2) := by
  simp only [Utf8.decode, Nat.add_zero, show ∀ k, (s.get! k).toNat = bt s k from fun _ => rfl]
  rw [if_neg (by omega), if_pos (by simp; omega), if_pos (by omega)]
theorem valid_of {c : Nat} (h : c < 55296 ∨ (57344 ≤ c ∧ c ≤ 1114111)) : Utf8.valid (c : Int) = true := by
  simp [Utf8.valid]; omega
theorem dec3 {s : ByteArray} {i : Nat} (h0 : 224 ≤ bt s i) (h0' : bt s i ≤ 239) (hs : i + 2 < s.size) (h1 : 128 ≤ bt s (i + 1)) (h1' : bt s (i + 1) ≤ 191) (h2 : 128 ≤ bt s (i + 2)) (h2' : bt s (i + 2) ≤ 191)
    (hlo : bt s i = 224 → 160 ≤ bt s (i + 1)) (hhi : bt s i = 237 → bt s (i + 1) ≤ 159) : Utf8.decode s i = (bt s i % 16 * 4096 + bt s (i + 1) % 64 * 64 + bt s (i + 2) % 64, 3) := by
  simp only [Utf8.decode, Nat.add_zero, show ∀ k, (s.get! k).toNat = bt s k from fun _ => rfl]
  rw [if_neg (by omega), if_neg (by simp; omega), if_pos (by simp; omega), if_pos]
  have hv := valid_of (c := bt s i % 16 * 4096 + bt s (i + 1) % 64 * 64 + bt s (i + 2) % 64) (by omega)
  simp only [Bool.and_eq_true, decide_eq_true_eq, ge_iff_le]
  exact ⟨by omega, by simpa using hv⟩
theorem dec4 {s : ByteArray} {i : Nat} (h0 : 240 ≤ bt s i) (h0' : bt s i ≤ 244) (hs : i + 3 < s.size) (h1 : 128 ≤ bt s (i + 1)) (h1' : bt s (i + 1) ≤ 191) (h2 : 128 ≤ bt s (i + 2)) (h2' : bt s (i + 2) ≤ 191) (h3 : 128 ≤ bt s (i + 3)) (h3' : bt s (i + 3) ≤ 191)
    (hlo : bt s i = 240 → 144 ≤ bt s (i + 1)) (hhi : bt s i = 244 → bt s (i + 1) ≤ 143) : Utf8.decode s i = (bt s i % 8 * 262144 + bt s (i + 1) % 64 * 4096 + bt s (i + 2) % 64 * 64 + bt s (i + 3) % 64, 4) := by
  simp only [Utf8.decode, Nat.add_zero, show ∀ k, (s.get! k).toNat = bt s k from fun _ => rfl]
  rw [if_neg (by omega), if_neg (by simp; omega), if_neg (by simp; omega), if_pos (by simp; omega), if_pos]
  have hv := valid_of (c := bt s i % 8 * 262144 + bt s (i + 1) % 64 * 4096 + bt s (i + 2) % 64 * 64 + bt s (i + 3) % 64) (by omega)
  simp only [Bool.and_eq_true, decide_eq_true_eq, ge_iff_le]
  exact ⟨by omega, by simpa using hv⟩
/-- The number of bytes of a code point. -/
def rlen (c : Nat) : Nat := if c < 128 then 1 else if c < 2048 then 2 else if c < 65536 then 3 else 4
def GoodR (c : Nat) : Prop := c < 55296 ∨ (57344 ≤ c ∧ c ≤ 1114111)
/-- A well-formed code point stands at place i. -/
def Ok (s : ByteArray) (i : Nat) : Prop := GoodR (Utf8.decode s i).1 ∧ rlen (Utf8.decode s i).1 = (Utf8.decode s i).2
/-- What the statement's table asks of the first byte. -/
def Tb (b n lo hi : Nat) : Prop :=
  (194 ≤ b ∧ b ≤ 223 ∧ n = 2 ∧ lo = 128 ∧ hi = 191) ∨ (b = 224 ∧ n = 3 ∧ lo = 160 ∧ hi = 191) ∨ ((225 ≤ b ∧ b ≤ 236 ∨ b = 238 ∨ b = 239) ∧ n = 3 ∧ lo = 128 ∧ hi = 191) ∨
  (b = 237 ∧ n = 3 ∧ lo = 128 ∧ hi = 159) ∨ (b = 240 ∧ n = 4 ∧ lo = 144 ∧ hi = 191) ∨ (241 ≤ b ∧ b ≤ 243 ∧ n = 4 ∧ lo = 128 ∧ hi = 191) ∨ (b = 244 ∧ n = 4 ∧ lo = 128 ∧ hi = 143)
theorem Tb.n {b n lo hi : Nat} (h : Tb b n lo hi) : 2 ≤ n ∧ n ≤ 4 ∧ 128 ≤ lo ∧ hi ≤ 191 := by unfold Tb at h; omega
theorem ok1 {s : ByteArray} {i : Nat} (h : bt s i < 128) : Ok s i ∧ (Utf8.decode s i).2 = 1 := by
  unfold Ok
  rw [dec1 h]
  refine ⟨⟨?_, ?_⟩, rfl⟩
  · unfold GoodR; simp; omega
  · simp [rlen, h]
theorem okT {s : ByteArray} {i n lo hi : Nat} (hT : Tb (bt s i) n lo hi) (hs : i + n ≤ s.size) (h1 : lo ≤ bt s (i + 1)) (h1' : bt s (i + 1) ≤ hi) (hk : ∀ k, 2 ≤ k → k < n → 128 ≤ bt s (i + k) ∧ bt s (i + k) ≤ 191) :
    Ok s i ∧ (Utf8.decode s i).2 = n := by
  have hb := bt_lt s i
  have hn : n = 2 ∨ n = 3 ∨ n = 4 := by unfold Tb at hT; omega
  unfold Tb at hT
  rcases hn with rfl | rfl | rfl
  · unfold Ok
    rw [dec2 (by omega) (by omega) (by omega) (by omega) (by omega)]
    refine ⟨⟨?_, ?_⟩, rfl⟩
    · unfold GoodR; simp only; omega
    · unfold rlen; simp only; rw [if_neg (by omega), if_pos (by omega)]
  · have k2 := hk 2 (by omega) (by omega)
    unfold Ok
    rw [dec3 (by omega) (by omega) (by omega) (by omega) (by omega) (by omega) (by omega) (by omega) (by omega)]
    refine ⟨⟨?_, ?_⟩, rfl⟩
    · unfold GoodR; simp only; omega
    · unfold rlen; simp only; rw [if_neg (by omega), if_neg (by omega), if_pos (by omega)]
  · have k2 := hk 2 (by omega) (by omega)
    have k3 := hk 3 (by omega) (by omega)
    unfold Ok
    rw [dec4 (by omega) (by omega) (by omega) (by omega) (by omega) (by omega) (by omega) (by omega) (by omega) (by omega) (by omega)]
    refine ⟨⟨?_, ?_⟩, rfl⟩
    · unfold GoodR; simp only; omega
    · unfold rlen; simp only; rw [if_neg (by omega), if_neg (by omega), if_neg (by omega)]
theorem fits (s : ByteArray) (i : Nat) (h : i < s.size) : 1 ≤ (Utf8.decode s i).2 ∧ i + (Utf8.decode s i).2 ≤ s.size := by
  simp only [Utf8.decode]
  repeat' split
  all_goals simp_all
  all_goals omega
theorem dec_max (s : ByteArray) (i : Nat) : GoodR (Utf8.decode s i).1 := by
  have hb : ∀ k, bt s k < 256 := fun k => bt_lt s k
  have h0 := hb (i + 0); have h1 := hb (i + 1); have h2 := hb (i + 2); have h3 := hb (i + 3)
  simp only [Utf8.decode, show ∀ k, (s.get! k).toNat = bt s k from fun _ => rfl]
  repeat' split
  all_goals simp_all [Utf8.runeError, Utf8.valid, GoodR]
  all_goals omega
/-- The places that a walk over the string comes to. -/
def pl (s : ByteArray) : Nat → Nat
  | 0 => 0
  | t + 1 => pl s t + (Utf8.decode s (pl s t)).2
def VS (s : ByteArray) : Prop := ∀ t, pl s t < s.size → Ok s (pl s t)
theorem pl_mono (s : ByteArray) {t u : Nat} (h : t ≤ u) : pl s t ≤ pl s u := by
  induction h with
  | refl => exact Nat.le_refl _
  | step _ ih => exact Nat.le_trans ih (Nat.le_add_right _ _)
theorem VS.of {s : ByteArray} {t : Nat} (h : ∀ u, u < t → Ok s (pl s u)) (he : s.size ≤ pl s t) : VS s := fun u hu => by
  by_cases e : u < t
  · exact h u e
  · have := pl_mono s (show t ≤ u by omega); omega
end Go.Proofs.Ythmakfnceliciaa.u8
