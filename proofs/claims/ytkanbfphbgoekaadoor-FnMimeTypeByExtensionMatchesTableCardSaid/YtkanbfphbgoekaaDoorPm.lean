/-
  Plain: what the statement's fold says of strings.ToLower.
-/
import Derived.Test.YtkanbfphbgoekaaDoorPl
import Derived.Lib.CaseT
import Derived.KernelRfl
namespace Go.Proofs.YtkanbfphbgoekaaDoor.pl
open Go.Lib
set_option linter.unusedVariables false
set_option linter.unusedSimpArgs false
theorem look_in (T : Array CaseRow) (r : Int) : ∀ (f lo hi i : Nat), hi ≤ T.size → lookupIdx T r f lo hi = some i → i < T.size ∧ ((T.getD i (0, 0, 0, 0, 0)).1 : Int) ≤ r ∧ r ≤ ((T.getD i (0, 0, 0, 0, 0)).2.1 : Int)
  | 0, lo, hi, i, _, h => by simp [lookupIdx] at h
  | f + 1, lo, hi, i, hh, h => by
    unfold lookupIdx at h
    split at h
    · rename_i hlt
      split at h
      · rename_i hc
        simp only [Option.some.injEq] at h
        subst h
        exact ⟨by omega, hc⟩
      · split at h
        · exact look_in T r f lo _ i (by omega) h
        · exact look_in T r f _ hi i hh h
    · cases h
/-- Of a row: no rune of it that is not ASCII lowers into ASCII, but for the two. -/
def rowOk (x : CaseRow) : Bool := decide (x.2.1 < 128) || (if x.delta 1 > 1114111 then decide (128 ≤ x.1) else decide (128 ≤ (max x.1 128 : Int) + x.delta 1)) || decide (x.1 = 304 ∧ x.2.1 = 304) || decide (x.1 = 8490 ∧ x.2.1 = 8490)
theorem rows_ok : caseT.all rowOk = true := by kernel_rfl
theorem low_ascii (r : Int) (h : 128 ≤ r) (hl : toLowerU r < 128) : r = 304 ∨ r = 8490 := by
  unfold toLowerU at hl
  rw [if_neg (by omega)] at hl
  unfold toR lookupGo at hl
  cases e : lookupIdx caseA r (caseA.size + 1) 0 caseA.size with
  | none => rw [e] at hl; simp at hl; omega
  | some i =>
    rw [e] at hl
    simp only [Option.map_some] at hl
    obtain ⟨h1, h2, h3⟩ := look_in caseA r _ _ _ i (Nat.le_refl _) e
    have hm : caseA.getD i (0, 0, 0, 0, 0) ∈ caseT := by
      have : i < caseT.length := by simpa [caseA] using h1
      simp [caseA, Array.getD, this]
    have ho := List.all_eq_true.1 rows_ok _ hm
    generalize caseA.getD i (0, 0, 0, 0, 0) = x at *
    unfold rowOk at ho
    unfold convertR at hl
    simp only [Bool.or_eq_true, decide_eq_true_eq] at ho
    rcases ho with ((ho | ho) | ho) | ho
    · omega
    · split at ho
      · rename_i hd
        rw [if_pos hd] at hl
        simp only [decide_eq_true_eq] at ho
        omega
      · rename_i hd
        rw [if_neg hd] at hl
        simp only [decide_eq_true_eq] at ho
        omega
    · left; omega
    · right; omega
theorem low_nonneg_304 : toLowerU 304 = 105 := by kernel_rfl
theorem low_nonneg_8490 : toLowerU 8490 = 107 := by kernel_rfl
theorem enc_105 : encodeRune 105 = [105] := by kernel_rfl
theorem enc_107 : encodeRune 107 = [107] := by kernel_rfl
/-- The encoding of a rune that is not ASCII begins with a byte that is not. -/
theorem enc_high (z : Int) (h : 128 ≤ z) : ∃ b t, encodeRune z = b :: t ∧ 128 ≤ b.toNat := by
  unfold encodeRune encodeRuneZ
  rw [if_neg (by omega)]
  split
  · rename_i h1
    refine ⟨_, _, rfl, ?_⟩
    simp only [Nat.toUInt8, UInt8.toNat_ofNat']
    omega
  · split
    · rename_i h1
      refine ⟨_, _, rfl, ?_⟩
      simp only [Nat.toUInt8, UInt8.toNat_ofNat']
      omega
    · split
      · rename_i h1
        refine ⟨_, _, rfl, ?_⟩
        simp only [Nat.toUInt8, UInt8.toNat_ofNat']
        omega
      · exact ⟨_, _, rfl, by decide⟩
/-- The statement's fold. -/
def fd : Nat → List UInt8 → Option (List UInt8)
  | 0, _ => some []
  | n + 1, l => if l = [] then some [] else
    if bt l 0 < 128 then (fd n (l.drop 1)).map (UInt8.ofNat (cs false (bt l 0)) :: ·)
    else if bt l 0 = 196 ∧ 1 < l.length ∧ bt l 1 = 176 then (fd n (l.drop 2)).map ((105 : UInt8) :: ·)
    else if bt l 0 = 226 ∧ 2 < l.length ∧ bt l 1 = 132 ∧ bt l 2 = 170 then (fd n (l.drop 3)).map ((107 : UInt8) :: ·)
    else none
theorem low_byte (b : Nat) (h : b < 128) : encodeRune (toLowerU (b : Int)) = [UInt8.ofNat (cs false b)] ∧ 0 ≤ toLowerU (b : Int) := by
  unfold toLowerU
  rw [if_pos (by omega)]
  by_cases h2 : 65 ≤ b ∧ b ≤ 90
  · rw [if_pos (by omega)]
    have e : cs false b = b + 32 := by unfold cs; rw [if_neg (by simp), if_pos h2]
    refine ⟨?_, by omega⟩
    unfold encodeRune
    rw [encodeRuneZ_one (by omega) (by omega), e]
    have : ((b : Int) + 32).toNat = b + 32 := by omega
    simp [this]
  · rw [if_neg (by omega)]
    have e : cs false b = b := by unfold cs; rw [if_neg (by simp), if_neg h2]
    refine ⟨?_, by omega⟩
    unfold encodeRune
    rw [encodeRuneZ_one (by omega) (by omega), e]
    simp
theorem dec_304 {l : List UInt8} (h : bt l 0 = 196 ∧ 1 < l.length ∧ bt l 1 = 176) : decodeL l = (304, 2) := by
  obtain ⟨h0, h1, h2⟩ := h
  rw [decodeL_eq, h0, h2]
  simp [h1]
theorem dec_8490 {l : List UInt8} (h : bt l 0 = 226 ∧ 2 < l.length ∧ bt l 1 = 132 ∧ bt l 2 = 170) : decodeL l = (8490, 3) := by
  obtain ⟨h0, h1, h2, h3⟩ := h
  have h4 : 1 < l.length := by omega
  rw [decodeL_eq, h0, h2, h3]
  simp [h1, h4, Utf8.valid]
theorem dec_high {l : List UInt8} (h : ¬ bt l 0 < 128) : 128 ≤ (decodeL l).1 ∧ ((decodeL l).1 = 304 → bt l 0 = 196 ∧ 1 < l.length ∧ bt l 1 = 176) ∧ ((decodeL l).1 = 8490 → bt l 0 = 226 ∧ 2 < l.length ∧ bt l 1 = 132 ∧ bt l 2 = 170) := by
  rw [decodeL_eq, if_neg h]
  split
  · rename_i hc
    simp only [Bool.and_eq_true, decide_eq_true_eq, beq_iff_eq] at hc
    split
    · refine ⟨by simp only; omega, fun e => ?_, fun e => ?_⟩
      · simp only at e; omega
      · simp only at e; omega
    · exact ⟨by decide, fun e => by simp [Utf8.runeError] at e, fun e => by simp [Utf8.runeError] at e⟩
  · split
    · rename_i hc
      simp only [Bool.and_eq_true, decide_eq_true_eq, beq_iff_eq] at hc
      split
      · rename_i hv
        simp only [Bool.and_eq_true, decide_eq_true_eq, ge_iff_le] at hv
        refine ⟨by simp only; omega, fun e => ?_, fun e => ?_⟩
        · simp only at e; omega
        · simp only at e; omega
      · exact ⟨by decide, fun e => by simp [Utf8.runeError] at e, fun e => by simp [Utf8.runeError] at e⟩
    · split
      · rename_i hc
        simp only [Bool.and_eq_true, decide_eq_true_eq, beq_iff_eq] at hc
        split
        · rename_i hv
          simp only [Bool.and_eq_true, decide_eq_true_eq, ge_iff_le] at hv
          refine ⟨by simp only; omega, fun e => ?_, fun e => ?_⟩
          · simp only at e; omega
          · simp only at e; omega
        · exact ⟨by decide, fun e => by simp [Utf8.runeError] at e, fun e => by simp [Utf8.runeError] at e⟩
      · exact ⟨by decide, fun e => by simp [Utf8.runeError] at e, fun e => by simp [Utf8.runeError] at e⟩
theorem fold_low : ∀ (n : Nat) (l : List UInt8), (∀ m, fd n l = some m → mapGoD toLowerU n l = m) ∧ (fd n l = none → ∃ b ∈ mapGoD toLowerU n l, 128 ≤ b.toNat)
  | 0, l => ⟨fun m h => by simp only [fd, Option.some.injEq] at h; subst h; rfl, fun h => by simp [fd] at h⟩
  | n + 1, l => by
    have step : ∀ (k : Nat) (c : UInt8), (decodeL l).2 = k → l ≠ [] → encodeRune (toLowerU ((decodeL l).1 : Int)) = [c] → 0 ≤ toLowerU ((decodeL l).1 : Int) → fd (n + 1) l = (fd n (l.drop k)).map (c :: ·) →
        (∀ m, fd (n + 1) l = some m → mapGoD toLowerU (n + 1) l = m) ∧ (fd (n + 1) l = none → ∃ b ∈ mapGoD toLowerU (n + 1) l, 128 ≤ b.toNat) := by
      intro k c hk hne he h0 hf
      have hm : mapGoD toLowerU (n + 1) l = c :: mapGoD toLowerU n (l.drop k) := by
        simp only [mapGoD, if_neg hne, if_pos h0, he, hk]
        rfl
      obtain ⟨i1, i2⟩ := fold_low n (l.drop k)
      rw [hf, hm]
      refine ⟨fun m h => ?_, fun h => ?_⟩
      · cases e : fd n (l.drop k) with
        | none => rw [e] at h; cases h
        | some m' =>
          rw [e] at h
          simp only [Option.map_some, Option.some.injEq] at h
          rw [i1 m' e, h]
      · cases e : fd n (l.drop k) with
        | none =>
          obtain ⟨b, hb, hb2⟩ := i2 e
          exact ⟨b, List.mem_cons_of_mem _ hb, hb2⟩
        | some m' => rw [e] at h; cases h
    by_cases hne : l = []
    · subst hne
      refine ⟨fun m h => ?_, fun h => by simp [fd] at h⟩
      simp only [fd, if_pos, Option.some.injEq] at h
      subst h
      simp [mapGoD]
    · by_cases h1 : bt l 0 < 128
      · obtain ⟨e1, e2⟩ := low_byte (bt l 0) h1
        have hd := decode_ascii h1
        have hf : fd (n + 1) l = (fd n (l.drop 1)).map (UInt8.ofNat (cs false (bt l 0)) :: ·) := by simp only [fd, if_neg hne, if_pos h1]
        exact step 1 _ (by rw [hd]) hne (by rw [hd]; exact e1) (by rw [hd]; exact e2) hf
      · by_cases h2 : bt l 0 = 196 ∧ 1 < l.length ∧ bt l 1 = 176
        · have hd := dec_304 h2
          have hf : fd (n + 1) l = (fd n (l.drop 2)).map ((105 : UInt8) :: ·) := by simp only [fd, if_neg hne, if_neg h1, if_pos h2]
          exact step 2 105 (by rw [hd]) hne (by rw [hd]; show encodeRune (toLowerU 304) = _; rw [low_nonneg_304]; exact enc_105) (by rw [hd]; show 0 ≤ toLowerU 304; rw [low_nonneg_304]; decide) hf
        · by_cases h3 : bt l 0 = 226 ∧ 2 < l.length ∧ bt l 1 = 132 ∧ bt l 2 = 170
          · have hd := dec_8490 h3
            have hf : fd (n + 1) l = (fd n (l.drop 3)).map ((107 : UInt8) :: ·) := by simp only [fd, if_neg hne, if_neg h1, if_neg h2, if_pos h3]
            exact step 3 107 (by rw [hd]) hne (by rw [hd]; show encodeRune (toLowerU 8490) = _; rw [low_nonneg_8490]; exact enc_107) (by rw [hd]; show 0 ≤ toLowerU 8490; rw [low_nonneg_8490]; decide) hf
          · have hf : fd (n + 1) l = none := by
              simp only [fd, if_neg hne, if_neg h1, if_neg h2, if_neg h3]
            rw [hf]
            refine ⟨fun m h => (by cases h), fun _ => ?_⟩
            obtain ⟨d1, d2, d3⟩ := dec_high h1
            have hr : 128 ≤ toLowerU ((decodeL l).1 : Int) := by
              rcases Int.lt_or_le (toLowerU ((decodeL l).1 : Int)) 128 with h | h
              · rcases low_ascii _ (by omega) h with h | h
                · exact absurd (d2 (by omega)) h2
                · exact absurd (d3 (by omega)) h3
              · exact h
            obtain ⟨b, tl, he, hb⟩ := enc_high _ hr
            refine ⟨b, ?_, hb⟩
            have hp : 0 ≤ toLowerU ((decodeL l).1 : Int) := by omega
            simp only [mapGoD, if_neg hne, if_pos hp, he]
            simp
end Go.Proofs.YtkanbfphbgoekaaDoor.pl
