/-
  Plain: strings.ToLower at any bytes does not see the case of ASCII letters.
-/
import Derived.Lib.MapU
namespace Go.Proofs.YtkanbfphbgoekaaDoor.pl
open Go.Lib
set_option linter.unusedVariables false
set_option linter.unusedSimpArgs false
/-- How a byte may be turned: an ASCII letter to its other case, all else not. -/
def Tn (b c : UInt8) : Prop := c = b ∨ (b.toNat < 128 ∧ c.toNat < 128 ∧ toLowerU (c.toNat : Int) = toLowerU (b.toNat : Int))
def Tns (l m : List UInt8) : Prop := l.length = m.length ∧ ∀ (i : Nat) (b c : UInt8), l[i]? = some b → m[i]? = some c → Tn b c
theorem Tns.drop {l m : List UInt8} (h : Tns l m) (k : Nat) : Tns (l.drop k) (m.drop k) := by
  refine ⟨by rw [List.length_drop, List.length_drop, h.1], fun i b c hb hc => ?_⟩
  rw [List.getElem?_drop] at hb hc
  exact h.2 _ b c hb hc
/-- Byte k. -/
def bt (l : List UInt8) (k : Nat) : Nat := ((⟨l.toArray⟩ : ByteArray).get! k).toNat
theorem bt_some {l : List UInt8} {k : Nat} {b : UInt8} (h : l[k]? = some b) : bt l k = b.toNat := by
  have hk : k < l.length := (List.getElem?_eq_some_iff.1 h).1
  have he : l[k] = b := (List.getElem?_eq_some_iff.1 h).2
  show ((⟨l.toArray⟩ : ByteArray).data[k]!).toNat = b.toNat
  simp [hk, he]
theorem decodeL_eq (l : List UInt8) : decodeL l = (if bt l 0 < 0x80 then (bt l 0, 1)
  else if bt l 0 / 32 == 6 && (decide (1 < l.length) && bt l 1 / 64 == 2) then
    (if (bt l 0 % 32) * 64 + bt l 1 % 64 ≥ 0x80 then ((bt l 0 % 32) * 64 + bt l 1 % 64, 2) else (Utf8.runeError, 1))
  else if bt l 0 / 16 == 14 && (decide (1 < l.length) && bt l 1 / 64 == 2) && (decide (2 < l.length) && bt l 2 / 64 == 2) then
    (if (bt l 0 % 16) * 4096 + (bt l 1 % 64) * 64 + bt l 2 % 64 ≥ 0x800 && Utf8.valid ((bt l 0 % 16) * 4096 + (bt l 1 % 64) * 64 + bt l 2 % 64) then ((bt l 0 % 16) * 4096 + (bt l 1 % 64) * 64 + bt l 2 % 64, 3) else (Utf8.runeError, 1))
  else if bt l 0 / 8 == 30 && (decide (1 < l.length) && bt l 1 / 64 == 2) && (decide (2 < l.length) && bt l 2 / 64 == 2) && (decide (3 < l.length) && bt l 3 / 64 == 2) then
    (if (bt l 0 % 8) * 262144 + (bt l 1 % 64) * 4096 + (bt l 2 % 64) * 64 + bt l 3 % 64 ≥ 0x10000 && Utf8.valid ((bt l 0 % 8) * 262144 + (bt l 1 % 64) * 4096 + (bt l 2 % 64) * 64 + bt l 3 % 64) then ((bt l 0 % 8) * 262144 + (bt l 1 % 64) * 4096 + (bt l 2 % 64) * 64 + bt l 3 % 64, 4) else (Utf8.runeError, 1))
  else (Utf8.runeError, 1)) := by
  unfold decodeL Utf8.decode
  simp only [Nat.zero_add]
  rfl
theorem cont_same {l m : List UInt8} (h : Tns l m) (k : Nat) : (decide (k < m.length) && bt m k / 64 == 2) = (decide (k < l.length) && bt l k / 64 == 2) ∧ ((decide (k < l.length) && bt l k / 64 == 2) = true → bt m k = bt l k) := by
  by_cases hk : k < l.length
  · have hm : k < m.length := by rw [← h.1]; exact hk
    have e1 := bt_some (List.getElem?_eq_getElem hk)
    have e2 := bt_some (List.getElem?_eq_getElem hm)
    rcases h.2 k _ _ (List.getElem?_eq_getElem hk) (List.getElem?_eq_getElem hm) with h1 | ⟨h1, h2, _⟩
    · rw [h1] at e2
      rw [e1, e2]
      exact ⟨by simp [hk, hm], fun _ => rfl⟩
    · rw [← e1] at h1
      rw [← e2] at h2
      have n1 : (bt l k / 64 == 2) = false := by
        rw [beq_eq_false_iff_ne]; omega
      have n2 : (bt m k / 64 == 2) = false := by
        rw [beq_eq_false_iff_ne]; omega
      exact ⟨by simp [n1, n2], fun hh => by rw [n1] at hh; simp at hh⟩
  · have hm : ¬ k < m.length := by rw [← h.1]; exact hk
    exact ⟨by simp [hk, hm], fun hh => by simp [hk] at hh⟩
theorem decode_same {l m : List UInt8} (h : Tns l m) (h0 : bt m 0 = bt l 0) (hb : ¬ bt l 0 < 128) : decodeL m = decodeL l := by
  obtain ⟨c1, d1⟩ := cont_same h 1
  obtain ⟨c2, d2⟩ := cont_same h 2
  obtain ⟨c3, d3⟩ := cont_same h 3
  rw [decodeL_eq m, decodeL_eq l, h0, c1, c2, c3]
  cases e1 : (decide (1 < l.length) && bt l 1 / 64 == 2)
  · simp
  · rw [d1 e1]
    cases e2 : (decide (2 < l.length) && bt l 2 / 64 == 2)
    · simp
    · rw [d2 e2]
      cases e3 : (decide (3 < l.length) && bt l 3 / 64 == 2)
      · simp
      · rw [d3 e3]
theorem decode_ascii {l : List UInt8} (hb : bt l 0 < 128) : decodeL l = (bt l 0, 1) := by
  rw [decodeL_eq, if_pos hb]
theorem go_same (n : Nat) : ∀ {l m : List UInt8}, Tns l m → mapGoD toLowerU n m = mapGoD toLowerU n l := by
  induction n with
  | zero => intro l m h; rfl
  | succ n ih =>
    intro l m h
    unfold mapGoD
    by_cases he : l = []
    · subst he
      have hm : m = [] := List.eq_nil_of_length_eq_zero (by rw [← h.1]; rfl)
      rw [if_pos rfl, if_pos hm]
    · have hl : 0 < l.length := List.length_pos_iff.2 he
      have hm : 0 < m.length := by rw [← h.1]; exact hl
      have hme : m ≠ [] := List.length_pos_iff.1 hm
      rw [if_neg he, if_neg hme]
      have e1 := bt_some (List.getElem?_eq_getElem hl)
      have e2 := bt_some (List.getElem?_eq_getElem hm)
      have key : toLowerU ((decodeL m).1 : Int) = toLowerU ((decodeL l).1 : Int) ∧ (decodeL m).2 = (decodeL l).2 := by
        rcases h.2 0 _ _ (List.getElem?_eq_getElem hl) (List.getElem?_eq_getElem hm) with h1 | ⟨h1, h2, h3⟩
        · have h0 : bt m 0 = bt l 0 := by rw [e1, e2, h1]
          by_cases hb : bt l 0 < 128
          · rw [decode_ascii hb, decode_ascii (by rw [h0]; exact hb), h0]
            exact ⟨rfl, rfl⟩
          · rw [decode_same h h0 hb]
            exact ⟨rfl, rfl⟩
        · rw [← e1] at h1 h3
          rw [← e2] at h2 h3
          rw [decode_ascii h1, decode_ascii h2]
          exact ⟨h3, rfl⟩
      rw [key.1, key.2, ih (h.drop _)]
theorem lower_same {l m : List UInt8} (h : Tns l m) : toLowerD m = toLowerD l := by
  unfold toLowerD mapD
  rw [← h.1]
  exact go_same _ h
/-- Upper or lower case of one byte. -/
def cs (up : Bool) (b : Nat) : Nat := if up = true then (if 97 ≤ b ∧ b ≤ 122 then b - 32 else b) else (if 65 ≤ b ∧ b ≤ 90 then b + 32 else b)
theorem cs_lt {up : Bool} {b : Nat} (h : b < 256) : cs up b < 256 := by unfold cs; split <;> split <;> omega
theorem cs_tn (up : Bool) (b : UInt8) : Tn b (UInt8.ofNat (cs up b.toNat)) := by
  have hb : b.toNat < 256 := b.toNat_lt
  have hc := cs_lt (up := up) hb
  have hn : (UInt8.ofNat (cs up b.toNat)).toNat = cs up b.toNat := by simp [Nat.mod_eq_of_lt hc]
  by_cases h : cs up b.toNat = b.toNat
  · left
    rw [h]
    simp
  · right
    rw [hn]
    unfold cs at *
    have h128 : b.toNat < 128 := by
      split at h <;> split at h <;> first | omega | exact absurd rfl h
    refine ⟨h128, ?_, ?_⟩
    · split <;> split <;> omega
    · unfold toLowerU
      split at h
      · split at h
        · rename_i h1 h2
          rw [if_pos h1, if_pos h2, if_pos (by omega), if_pos (by omega), if_pos (by omega), if_neg (by omega)]
          omega
        · exact absurd rfl h
      · split at h
        · rename_i h1 h2
          rw [if_neg h1, if_pos h2, if_pos (by omega), if_neg (by omega), if_pos (by omega), if_pos (by omega)]
          omega
        · exact absurd rfl h
end Go.Proofs.YtkanbfphbgoekaaDoor.pl
