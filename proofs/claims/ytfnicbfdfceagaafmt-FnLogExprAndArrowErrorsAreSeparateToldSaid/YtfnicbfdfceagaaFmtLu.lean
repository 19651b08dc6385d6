/-
  Line ends in UTF-8, plain: what decoding forwards and backwards tells, and that no step jumps over a line end.
-/
import Derived.Test.YtfnicbfdfceagaaFmtShelf
import Derived.Lib.RuneCountTail
namespace Go.Proofs.YtfnicbfdfceagaaFmt.lg
set_option linter.unusedVariables false
set_option linter.unusedSimpArgs false
def bt (s : ByteArray) (i : Nat) : Nat := (s.get! i).toNat
theorem bt_lt (s : ByteArray) (i : Nat) : bt s i < 256 := (s.get! i).toNat_lt
theorem get_ext (s : ByteArray) (a e j : Nat) (h : a + j < e) (he : e ≤ s.size) : (s.extract a e).get! j = s.get! (a + j) := by
  cases s with
  | mk d =>
    have h1 : e ≤ d.size := he
    show ((ByteArray.mk d).extract a e).data[j]! = d[a + j]!
    have hx : ((ByteArray.mk d).extract a e).data = d.extract a e := by rw [ByteArray.data_extract]
    rw [hx, getElem!_pos _ _ (by simp; omega), getElem!_pos _ _ (by omega)]
    simp
/-- A rune that ends a line. -/
def NL (r : Nat) : Prop := r = 10 ∨ r = 13 ∨ r = 8232 ∨ r = 8233
/-- A line end stands at place 0 of t. -/
def At0 (t : ByteArray) : Prop := 0 < t.size ∧ (bt t 0 = 10 ∨ bt t 0 = 13 ∨ (2 < t.size ∧ bt t 0 = 226 ∧ bt t 1 = 128 ∧ (bt t 2 = 168 ∨ bt t 2 = 169)))
theorem three_eq (x y z : Nat) (h0 : x / 16 = 14) (h1 : y / 64 = 2) (h2 : z / 64 = 2) : (x % 16 * 4096 + y % 64 * 64 + z % 64 = 8232 ↔ x = 226 ∧ y = 128 ∧ z = 168) ∧ (x % 16 * 4096 + y % 64 * 64 + z % 64 = 8233 ↔ x = 226 ∧ y = 128 ∧ z = 169) := by
  have a : (x % 16 * 4096 + y % 64 * 64 + z % 64) % 64 = z % 64 := by omega
  have b : (x % 16 * 4096 + y % 64 * 64 + z % 64) / 64 % 64 = y % 64 := by omega
  have c : (x % 16 * 4096 + y % 64 * 64 + z % 64) / 4096 = x % 16 := by omega
  refine ⟨⟨fun e => ?_, fun e => by omega⟩, ⟨fun e => ?_, fun e => by omega⟩⟩
  · rw [e] at a b c; omega
  · rw [e] at a b c; omega
theorem dec_facts (t : ByteArray) (h : 0 < t.size) : ∃ r k, Utf8.decode t 0 = (r, k) ∧ 1 ≤ k ∧ k ≤ 4 ∧ k ≤ t.size ∧ (∀ j, 1 ≤ j → j < k → bt t j / 64 = 2) ∧ (1 < k → 192 ≤ bt t 0) ∧
    (NL r ↔ At0 t) ∧ (NL r → (k = 1 ∧ (bt t 0 = 10 ∨ bt t 0 = 13)) ∨ (k = 3 ∧ bt t 0 = 226 ∧ bt t 1 = 128 ∧ (bt t 2 = 168 ∨ bt t 2 = 169))) := by
  have b0 := bt_lt t 0
  have b1 := bt_lt t 1
  have b2 := bt_lt t 2
  have b3 := bt_lt t 3
  unfold At0 NL
  simp only [Utf8.decode, Nat.zero_add, show ∀ k, (t.get! k).toNat = bt t k from fun _ => rfl]
  have three : ∀ (P : Nat → Prop) (k : Nat), k ≤ 4 → (1 < k → P 1) → (2 < k → P 2) → (3 < k → P 3) → ∀ j, 1 ≤ j → j < k → P j := fun P k hk h1 h2 h3 j hj hjk => by
    have : j = 1 ∨ j = 2 ∨ j = 3 := by omega
    rcases this with rfl | rfl | rfl
    · exact h1 hjk
    · exact h2 hjk
    · exact h3 hjk
  generalize bt t 0 = x0 at *
  by_cases c1 : x0 < 128
  · rw [if_pos c1]
    exact ⟨_, _, rfl, by omega, by omega, by omega, fun j hj hj' => by omega, by omega, by omega, by omega⟩
  · rw [if_neg c1]
    by_cases c2 : (x0 / 32 == 6 && (decide (1 < t.size) && bt t 1 / 64 == 2)) = true
    · rw [if_pos c2]
      simp only [Bool.and_eq_true, beq_iff_eq, decide_eq_true_eq] at c2
      by_cases d : x0 % 32 * 64 + bt t 1 % 64 ≥ 128
      · rw [if_pos d]
        exact ⟨_, _, rfl, by omega, by omega, by omega, three _ _ (by omega) (fun _ => by omega) (by omega) (by omega), by omega, by omega, by omega⟩
      · rw [if_neg d]
        exact ⟨_, _, rfl, by omega, by omega, by omega, fun j hj hj' => by omega, by omega, by simp only [Utf8.runeError]; omega, by simp only [Utf8.runeError]; omega⟩
    · rw [if_neg c2]
      by_cases c3 : (x0 / 16 == 14 && (decide (1 < t.size) && bt t 1 / 64 == 2) && (decide (2 < t.size) && bt t 2 / 64 == 2)) = true
      · rw [if_pos c3]
        simp only [Bool.and_eq_true, beq_iff_eq, decide_eq_true_eq] at c3
        by_cases d : (decide (x0 % 16 * 4096 + bt t 1 % 64 * 64 + bt t 2 % 64 ≥ 2048) && Utf8.valid ((x0 % 16 * 4096 + bt t 1 % 64 * 64 + bt t 2 % 64 : Nat) : Int)) = true
        · rw [if_pos d]
          simp only [Bool.and_eq_true, decide_eq_true_eq, ge_iff_le] at d
          obtain ⟨q1, q2⟩ := three_eq x0 (bt t 1) (bt t 2) (by omega) (by omega) (by omega)
          have q3 := d.1
          generalize x0 % 16 * 4096 + bt t 1 % 64 * 64 + bt t 2 % 64 = N at *
          exact ⟨_, _, rfl, by omega, by omega, by omega, three _ _ (by omega) (fun _ => by omega) (fun _ => by omega) (by omega), by omega, by omega, by omega⟩
        · rw [if_neg d]
          have dv : ¬ (x0 % 16 * 4096 + bt t 1 % 64 * 64 + bt t 2 % 64 = 8232 ∨ x0 % 16 * 4096 + bt t 1 % 64 * 64 + bt t 2 % 64 = 8233) := fun e => by
            apply d
            rcases e with e | e <;> rw [e] <;> decide
          exact ⟨_, _, rfl, by omega, by omega, by omega, fun j hj hj' => by omega, by omega, by simp only [Utf8.runeError]; omega, by simp only [Utf8.runeError]; omega⟩
      · rw [if_neg c3]
        have n3 : ¬ (2 < t.size ∧ x0 = 226 ∧ bt t 1 = 128 ∧ (bt t 2 = 168 ∨ bt t 2 = 169)) := fun ⟨e1, e2, e3, e4⟩ => c3 (by
          simp only [Bool.and_eq_true, beq_iff_eq, decide_eq_true_eq]
          omega)
        by_cases c4 : (x0 / 8 == 30 && (decide (1 < t.size) && bt t 1 / 64 == 2) && (decide (2 < t.size) && bt t 2 / 64 == 2) && (decide (3 < t.size) && bt t 3 / 64 == 2)) = true
        · rw [if_pos c4]
          simp only [Bool.and_eq_true, beq_iff_eq, decide_eq_true_eq] at c4
          by_cases d : (decide (x0 % 8 * 262144 + bt t 1 % 64 * 4096 + bt t 2 % 64 * 64 + bt t 3 % 64 ≥ 65536) && Utf8.valid ((x0 % 8 * 262144 + bt t 1 % 64 * 4096 + bt t 2 % 64 * 64 + bt t 3 % 64 : Nat) : Int)) = true
          · rw [if_pos d]
            simp only [Bool.and_eq_true, decide_eq_true_eq, ge_iff_le] at d
            exact ⟨_, _, rfl, by omega, by omega, by omega, three _ _ (by omega) (fun _ => by omega) (fun _ => by omega) (fun _ => by omega), by omega, by omega, by omega⟩
          · rw [if_neg d]
            exact ⟨_, _, rfl, by omega, by omega, by omega, fun j hj hj' => by omega, by omega, by simp only [Utf8.runeError]; omega, by simp only [Utf8.runeError]; omega⟩
        · rw [if_neg c4]
          exact ⟨_, _, rfl, by omega, by omega, by omega, fun j hj hj' => by omega, by omega, by simp only [Utf8.runeError]; omega, by simp only [Utf8.runeError]; omega⟩
/-- A line end begins at place i. -/
def AtL (s : ByteArray) (i : Nat) : Prop := i < s.size ∧ (bt s i = 10 ∨ bt s i = 13 ∨ (i + 2 < s.size ∧ bt s i = 226 ∧ bt s (i + 1) = 128 ∧ (bt s (i + 2) = 168 ∨ bt s (i + 2) = 169)))
/-- A line end ends ahead of place j. -/
def EndL (s : ByteArray) (j : Nat) : Prop := 0 < j ∧ j ≤ s.size ∧ (bt s (j - 1) = 10 ∨ bt s (j - 1) = 13 ∨ (3 ≤ j ∧ bt s (j - 3) = 226 ∧ bt s (j - 2) = 128 ∧ (bt s (j - 1) = 168 ∨ bt s (j - 1) = 169)))
theorem fwd (s : ByteArray) (i : Nat) (h : i < s.size) : ∃ r k, Lib.decodeGo (s.extract i s.size) = (r, k) ∧ 1 ≤ k ∧ i + k ≤ s.size ∧ (NL r ↔ AtL s i) ∧ (NL r → EndL s (i + k)) ∧ ∀ le, i < le → AtL s le → i + k ≤ le := by
  have hsz : (s.extract i s.size).size = s.size - i := by simp
  obtain ⟨r, k, e, k1, k4, ks, hc, h192, hn, hb⟩ := dec_facts (s.extract i s.size) (by omega)
  have g : ∀ j, bt (s.extract i s.size) j = bt s (i + j) := fun j => by unfold bt; rw [Lib.tail_get!]
  simp only [g, hsz, At0, Nat.add_zero] at hc h192 hn hb
  refine ⟨r, k, by unfold Lib.decodeGo; rw [if_neg (by omega), e], k1, by omega, ?_, ?_, ?_⟩
  · rw [hn]
    unfold AtL
    rw [show (2 < s.size - i) = (i + 2 < s.size) from propext (by omega), show (0 < s.size - i) = (i < s.size) from propext (by omega)]
  · intro hr
    unfold EndL
    rcases hb hr with ⟨rfl, h1⟩ | ⟨rfl, h1, h2, h3⟩
    · exact ⟨by omega, by omega, by rw [show i + 1 - 1 = i by omega]; omega⟩
    · exact ⟨by omega, by omega, by rw [show i + 3 - 1 = i + 2 by omega, show i + 3 - 3 = i by omega, show i + 3 - 2 = i + 1 by omega]; exact Or.inr (Or.inr ⟨by omega, h1, h2, h3⟩)⟩
  · intro le h1 h2
    refine Nat.le_of_not_lt fun hlt => ?_
    have := hc (le - i) (by omega) (by omega)
    rw [show i + (le - i) = le by omega] at this
    unfold AtL at h2
    omega
theorem start_facts (l : List UInt8) (h : 0 < l.length) : Lib.lastStart l < l.length ∧ (2 ≤ l.length → Lib.lastStart l + 2 ≤ l.length) ∧ (3 ≤ l.length → (l.getD (l.length - 3) 0).toNat = 226 → (l.getD (l.length - 2) 0).toNat = 128 → Lib.lastStart l = l.length - 3) := by
  have hs : ∀ b : UInt8, b.toNat = 226 → Lib.runeStartB b = true := fun b e => by unfold Lib.runeStartB; rw [e]; rfl
  have hn : ∀ b : UInt8, b.toNat = 128 → Lib.runeStartB b = false := fun b e => by unfold Lib.runeStartB; rw [e]; rfl
  refine ⟨Lib.lastStart_lt l (fun e => by rw [e] at h; simp at h), ?_, ?_⟩
  · intro h2
    unfold Lib.lastStart
    simp only
    repeat' split
    all_goals omega
  · intro h3 e1 e2
    unfold Lib.lastStart
    simp only
    rw [if_neg (by omega), if_neg (by rw [hn _ e2]; decide), if_neg (by omega), if_pos (hs _ e1)]
theorem bwd (s : ByteArray) (j : Nat) (h0 : 0 < j) (h : j ≤ s.size) : ∃ r k, Lib.decodeLastL (s.extract 0 j).data.toList = (r, k) ∧ 1 ≤ k ∧ k ≤ j ∧ (NL r ↔ EndL s j) ∧ (NL r → AtL s (j - k)) ∧ (¬ NL r → ∀ ls, EndL s ls → ls < j → ls ≤ j - k) := by
  have hsz : (s.extract 0 j).size = j := by simp; omega
  have hl : (s.extract 0 j).data.toList.length = j := (Lib.size_eq _).symm.trans hsz
  have g : ∀ k, k < j → bt (s.extract 0 j) k = bt s k := fun k hk => by unfold bt; rw [get_ext s 0 j k (by omega) h, Nat.zero_add]
  have gd : ∀ k, k < j → ((s.extract 0 j).data.toList.getD k 0).toNat = bt s k := fun k hk => by rw [Lib.getD_get!]; exact g k hk
  have hb := bt_lt s (j - 1)
  by_cases c : bt s (j - 1) < 128
  · refine ⟨bt s (j - 1), 1, ?_, by omega, by omega, ?_, ?_, fun _ ls _ _ => by omega⟩
    · unfold Lib.decodeLastL
      rw [if_neg (fun e => by rw [e] at hl; simp at hl; omega), hl, gd _ (by omega), if_pos c]
    · unfold NL EndL; omega
    · unfold NL AtL; omega
  · obtain ⟨s1, s2, s3⟩ := start_facts (s.extract 0 j).data.toList (by omega)
    rw [hl] at s1 s2 s3
    have hE : Lib.decodeLastL (s.extract 0 j).data.toList = Lib.lastOf (s.extract 0 j) (Lib.lastStart (s.extract 0 j).data.toList) := Lib.decodeLastL_eq _ (by omega) (by rw [hsz]; show 128 ≤ bt _ _; rw [g _ (by omega)]; omega)
    have s3' : 3 ≤ j → bt s (j - 3) = 226 → bt s (j - 2) = 128 → Lib.lastStart (s.extract 0 j).data.toList = j - 3 := fun a b c => s3 a (by rw [gd _ (by omega)]; exact b) (by rw [gd _ (by omega)]; exact c)
    rw [hE]
    clear hE s3
    generalize Lib.lastStart (s.extract 0 j).data.toList = st at *
    unfold Lib.lastOf
    rw [hsz]
    have tz : ((s.extract 0 j).extract st j).size = j - st := by simp; omega
    have tg : ∀ k, st + k < j → bt ((s.extract 0 j).extract st j) k = bt s (st + k) := fun k hk => by
      have := get_ext (s.extract 0 j) st j k (by omega) (by omega)
      show ((ByteArray.get! _ k)).toNat = _
      rw [this]
      exact g _ hk
    obtain ⟨r, k, e, k1, k4, ks, hc, h192, hn, hbk⟩ := dec_facts ((s.extract 0 j).extract st j) (by omega)
    have hD : Lib.decodeGo ((s.extract 0 j).extract st j) = (r, k) := by unfold Lib.decodeGo; rw [if_neg (by omega), e]
    rw [hD]
    rw [tz] at ks
    simp only []
    have t0 := tg 0 (by omega)
    rw [Nat.add_zero] at t0
    by_cases d : st + k = j
    · rw [if_pos d]
      refine ⟨r, k, rfl, k1, by omega, ?_, ?_, ?_⟩
      · constructor
        · intro hr
          rcases hbk hr with ⟨rfl, h1⟩ | ⟨rfl, h1, h2, h3⟩
          · rw [t0] at h1
            rw [show j - 1 = st by omega] at c
            omega
          · rw [t0] at h1
            rw [tg 1 (by omega)] at h2
            rw [tg 2 (by omega)] at h3
            unfold EndL
            refine ⟨h0, h, Or.inr (Or.inr ⟨by omega, ?_, ?_, ?_⟩)⟩
            · rw [show j - 3 = st by omega]; exact h1
            · rw [show j - 2 = st + 1 by omega]; exact h2
            · rw [show j - 1 = st + 2 by omega]; exact h3
        · intro hE
          unfold EndL at hE
          have hE' : 3 ≤ j ∧ bt s (j - 3) = 226 ∧ bt s (j - 2) = 128 ∧ (bt s (j - 1) = 168 ∨ bt s (j - 1) = 169) := by omega
          have hst := s3' hE'.1 hE'.2.1 hE'.2.2.1
          rw [hn]
          unfold At0
          rw [tz, t0, tg 1 (by omega), tg 2 (by omega)]
          refine ⟨by omega, Or.inr (Or.inr ⟨by omega, ?_, ?_, ?_⟩)⟩
          · rw [hst]; exact hE'.2.1
          · rw [show st + 1 = j - 2 by omega]; exact hE'.2.2.1
          · rw [show st + 2 = j - 1 by omega]; exact hE'.2.2.2
      · intro hr
        rcases hbk hr with ⟨rfl, h1⟩ | ⟨rfl, h1, h2, h3⟩
        · rw [t0] at h1
          rw [show j - 1 = st by omega] at c
          omega
        · rw [t0] at h1
          rw [tg 1 (by omega)] at h2
          rw [tg 2 (by omega)] at h3
          unfold AtL
          rw [show j - 3 = st by omega]
          exact ⟨by omega, Or.inr (Or.inr ⟨by omega, h1, h2, h3⟩)⟩
      · intro hr ls hE hlt
        refine Nat.le_of_not_lt fun hgt => ?_
        have cont : ∀ p, st < p → p < j → bt s p / 64 = 2 := fun p h1 h2 => by
          have := hc (p - st) (by omega) (by omega)
          rw [tg _ (by omega), show st + (p - st) = p by omega] at this
          exact this
        have lead : 192 ≤ bt s st := by rw [← t0]; exact h192 (by omega)
        unfold EndL at hE
        obtain ⟨e0, e1, e2⟩ := hE
        have all : ∀ p, st ≤ p → p < j → 128 ≤ bt s p := fun p h1 h2 => by
          rcases Nat.lt_or_ge st p with h3 | h3
          · have := cont p h3 h2; omega
          · obtain rfl : p = st := by omega
            omega
        have a1 := all (ls - 1) (by omega) (by omega)
        have e3 : 3 ≤ ls ∧ bt s (ls - 3) = 226 ∧ bt s (ls - 2) = 128 ∧ (bt s (ls - 1) = 168 ∨ bt s (ls - 1) = 169) := by omega
        rcases Nat.lt_trichotomy st (ls - 3) with h3 | h3 | h3
        · have := cont (ls - 3) h3 (by omega); omega
        · apply hr
          rw [hn]
          unfold At0
          rw [tz, t0, tg 1 (by omega), tg 2 (by omega)]
          refine ⟨by omega, Or.inr (Or.inr ⟨by omega, ?_, ?_, ?_⟩)⟩
          · rw [h3]; exact e3.2.1
          · rw [show st + 1 = ls - 2 by omega]; exact e3.2.2.1
          · rw [show st + 2 = ls - 1 by omega]; exact e3.2.2.2
        · have : st = ls - 2 ∨ st = ls - 1 := by omega
          rcases this with h4 | h4 <;> rw [h4] at lead <;> omega
    · rw [if_neg d]
      refine ⟨65533, 1, rfl, by omega, by omega, ?_, ?_, fun _ ls _ _ => by omega⟩
      · constructor
        · intro hr; unfold NL at hr; omega
        · intro hE
          exfalso
          unfold EndL at hE
          have hE' : 3 ≤ j ∧ bt s (j - 3) = 226 ∧ bt s (j - 2) = 128 ∧ (bt s (j - 1) = 168 ∨ bt s (j - 1) = 169) := by omega
          have hst := s3' hE'.1 hE'.2.1 hE'.2.2.1
          have hr : NL r := by
            rw [hn]
            unfold At0
            rw [tz, t0, tg 1 (by omega), tg 2 (by omega)]
            refine ⟨by omega, Or.inr (Or.inr ⟨by omega, ?_, ?_, ?_⟩)⟩
            · rw [hst]; exact hE'.2.1
            · rw [show st + 1 = j - 2 by omega]; exact hE'.2.2.1
            · rw [show st + 2 = j - 1 by omega]; exact hE'.2.2.2
          rcases hbk hr with ⟨rfl, h1⟩ | ⟨rfl, h1, h2, h3⟩
          · rw [t0, hst] at h1; omega
          · omega
      · intro hr; unfold NL at hr; omega
end Go.Proofs.YtfnicbfdfceagaaFmt.lg
