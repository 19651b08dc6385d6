/-
  Go's stable sort, walked: symMerge, stable, Stable.
-/
import Derived.Test.YtfnicbfdfceagaaFmtLo
namespace Go.Proofs.YtfnicbfdfceagaaFmt.lg
open Go.ChangeShapes Go.WideShapes Go.ChangeAt Go.RowKit Go.Deep
set_option linter.unusedVariables false
set_option linter.unusedSimpArgs false
set_option maxRecDepth 100000
set_option maxHeartbeats 4000000
/-- A search between lo and hi. -/
def RB2 (J : World → Prop) (lo hi : Nat) (v8 v9 : Value) (wr : World) : Prop := ∃ i j : Nat, v8 = i64 i ∧ v9 = i64 j ∧ lo ≤ i ∧ i ≤ j ∧ j ≤ hi ∧ J wr
def RK (J : World → Prop) (lo hi : Nat) (v : Value) (wr : World) : Prop := ∃ k : Nat, v = i64 k ∧ lo ≤ k ∧ k ≤ hi ∧ J wr
/-- One element on the left. -/
theorem sym1 (J : World → Prop) (g : Option Addr) (n cap a m b : Nat) (S : Srt J g n cap) (hn : n ≤ 1048576) (h1 : a < m ∧ m ≤ a + 1) (h2 : m < b) (h3 : b ≤ n) (w : World) (hJ : J w) :
    Calls Tryf.prog 49 #[ifc g n cap, i64 a, i64 m, i64 b] w (End0 J) := by
  have SS := Lib.hid S.swap
  have SL := Lib.hid S.less
  have HJ := Lib.hid hJ
  have ms := mthS g n cap
  have ml := mthL g n cap
  have q1 : ((m : Int) - a == 1) = true := by simp; omega
  clear S hJ
  go_enter Tryf.func49, Tryf.ntmps49
  go_wp2_with fail
  go_loopw [8, 9] (RB2 J (m) (b)) (fun v8 v9 _ => (intOf v9).toNat - (intOf v8).toNat)
  case atStart => exact ⟨m, b, by congr 1 <;> omega, by congr 1 <;> omega, Nat.le_refl _, by omega, Nat.le_refl _, HJ.out⟩
  case round =>
    obtain ⟨i, j, rfl, rfl, hi, hij, hj, hjj⟩ := hrel
    have HJ2 := Lib.hid hjj
    clear hjj
    by_cases hlt : i < j
    · go_upto_if 41 with (go_at_call 101; refine (SL.out _ _ _ HJ2.out (by omega) (by omega)).mono ?_; rintro _ w2 ⟨⟨c, rfl⟩, h2⟩; have H2 := Lib.hid h2; clear h2)
      cases c with
      | true =>
        go_wp2_with fail
        exact ⟨⟨(i + j) / 2 + 1, j, by congr 1, rfl, by omega, by omega, hj, H2.out⟩, by simp [intOf]; omega⟩
      | false =>
        go_wp2_with fail
        exact ⟨⟨i, (i + j) / 2, rfl, by congr 1, hi, by omega, by omega, H2.out⟩, by simp [intOf]; omega⟩
    · obtain rfl : i = j := by omega
      go_wp2_with fail
      go_loopw [11] (RK J a (i - 1)) (fun v _ => i - (intOf v).toNat)
      case atStart => exact ⟨a, rfl, Nat.le_refl _, by omega, HJ2.out⟩
      case round =>
        obtain ⟨k, rfl, hk1, hk2, hjj⟩ := hrel
        have HJ3 := Lib.hid hjj
        clear hjj
        by_cases hk : k < i - 1
        · have hkz : (k : Int) < (i : Int) - 1 := by omega
          go_wp2_with (go_at_call 102; refine (SS.out _ _ _ HJ3.out (by omega) (by omega)).mono ?_; rintro _ w3 ⟨rfl, h3⟩; have H3 := Lib.hid h3; clear h3)
          exact ⟨⟨k + 1, rfl, by omega, by omega, H3.out⟩, by simp [intOf]; omega⟩
        · have hkz : ¬ (k : Int) < (i : Int) - 1 := by omega
          go_wp2_with fail
          first | (go_end0; exact ⟨rfl, HJ3.out⟩) | (refine bodyPost_ret (results_none rfl _ _ _) rfl ?_; exact ⟨rfl, HJ3.out⟩)
/-- One element on the right. -/
theorem sym2 (J : World → Prop) (g : Option Addr) (n cap a m b : Nat) (S : Srt J g n cap) (hn : n ≤ 1048576) (h1 : a + 1 < m) (h2 : m < b ∧ b ≤ m + 1) (h3 : b ≤ n) (w : World) (hJ : J w) :
    Calls Tryf.prog 49 #[ifc g n cap, i64 a, i64 m, i64 b] w (End0 J) := by
  have SS := Lib.hid S.swap
  have SL := Lib.hid S.less
  have HJ := Lib.hid hJ
  have ms := mthS g n cap
  have ml := mthL g n cap
  have q1 : ((m : Int) - a == 1) = false := by simp; omega
  have q2 : ((b : Int) - m == 1) = true := by simp; omega
  clear S hJ
  go_enter Tryf.func49, Tryf.ntmps49
  go_wp2_with fail
  go_loopw [12, 13] (RB2 J (a) (m)) (fun v8 v9 _ => (intOf v9).toNat - (intOf v8).toNat)
  case atStart => exact ⟨a, m, by congr 1 <;> omega, by congr 1 <;> omega, Nat.le_refl _, by omega, Nat.le_refl _, HJ.out⟩
  case round =>
    obtain ⟨i, j, rfl, rfl, hi, hij, hj, hjj⟩ := hrel
    have HJ2 := Lib.hid hjj
    clear hjj
    by_cases hlt : i < j
    · go_upto_if 76 with (go_at_call 101; refine (SL.out _ _ _ HJ2.out (by omega) (by omega)).mono ?_; rintro _ w2 ⟨⟨c, rfl⟩, h2⟩; have H2 := Lib.hid h2; clear h2)
      cases c with
      | true =>
        go_wp2_with fail
        exact ⟨⟨i, (i + j) / 2, rfl, by congr 1, hi, by omega, by omega, H2.out⟩, by simp [intOf]; omega⟩
      | false =>
        go_wp2_with fail
        exact ⟨⟨(i + j) / 2 + 1, j, by congr 1, rfl, by omega, by omega, hj, H2.out⟩, by simp [intOf]; omega⟩
    · obtain rfl : i = j := by omega
      go_wp2_with fail
      go_loopw [15] (RK J i m) (fun v _ => (intOf v).toNat)
      case atStart => exact ⟨m, rfl, by omega, Nat.le_refl _, HJ2.out⟩
      case round =>
        obtain ⟨k, rfl, hk1, hk2, hjj⟩ := hrel
        have HJ3 := Lib.hid hjj
        clear hjj
        by_cases hk : i < k
        · go_wp2_with (go_at_call 102; refine (SS.out _ _ _ HJ3.out (by omega) (by omega)).mono ?_; rintro _ w3 ⟨rfl, h3⟩; have H3 := Lib.hid h3; clear h3)
          exact ⟨⟨k - 1, by congr 1; omega, by omega, by omega, H3.out⟩, by simp [intOf]; omega⟩
        · go_wp2_with fail
          first | (go_end0; exact ⟨rfl, HJ3.out⟩) | (refine bodyPost_ret (results_none rfl _ _ _) rfl ?_; exact ⟨rfl, HJ3.out⟩)
/-- The general step. -/
theorem sym3 (J : World → Prop) (g : Option Addr) (n cap a m b : Nat) (S : Srt J g n cap) (hn : n ≤ 1048576) (h1 : a + 1 < m) (h2 : m + 1 < b) (h3 : b ≤ n)
    (IH : ∀ (x y z : Nat), x < y → y < z → z ≤ n → z - x < b - a → ∀ w, J w → Calls Tryf.prog 49 #[ifc g n cap, i64 x, i64 y, i64 z] w (End0 J)) (w : World) (hJ : J w) :
    Calls Tryf.prog 49 #[ifc g n cap, i64 a, i64 m, i64 b] w (End0 J) := by
  have SR := Lib.hid fun (x y z : Int) (h : 0 ≤ x ∧ x < y ∧ y < z ∧ z ≤ n) (w : World) (hJ : J w) => (show Calls Tryf.prog 59 #[ifc g n cap, i64 x, i64 y, i64 z] w (End0 J) from by
    obtain ⟨x', rfl⟩ := Int.eq_ofNat_of_zero_le h.1
    obtain ⟨y', rfl⟩ := Int.eq_ofNat_of_zero_le (show 0 ≤ y by omega)
    obtain ⟨z', rfl⟩ := Int.eq_ofNat_of_zero_le (show 0 ≤ z by omega)
    exact rotate J g n cap x' y' z' S hn (by omega) (by omega) (by omega) w hJ)
  have IZ := Lib.hid fun (x y z : Int) (h : 0 ≤ x ∧ x < y ∧ y < z ∧ z ≤ n ∧ z - x < (b : Int) - a) (w : World) (hJ : J w) => (show Calls Tryf.prog 49 #[ifc g n cap, i64 x, i64 y, i64 z] w (End0 J) from by
    obtain ⟨x', rfl⟩ := Int.eq_ofNat_of_zero_le h.1
    obtain ⟨y', rfl⟩ := Int.eq_ofNat_of_zero_le (show 0 ≤ y by omega)
    obtain ⟨z', rfl⟩ := Int.eq_ofNat_of_zero_le (show 0 ≤ z by omega)
    exact IH x' y' z' (by omega) (by omega) (by omega) (by omega) w hJ)
  have SL := Lib.hid S.less
  have ml := mthL g n cap
  have q1 : ((m : Int) - a == 1) = false := by simp; omega
  have q2 : ((b : Int) - m == 1) = false := by simp; omega
  clear S IH
  by_cases hm : (a + b) / 2 < m
  · have hmz : ((a : Int) + b) / 2 < m := by omega
    go_enter Tryf.func49, Tryf.ntmps49
    go_wp2_with fail
    go_loopw [18, 19] (RB2 J ((a + b) / 2 + m - b) ((a + b) / 2)) (fun v8 v9 _ => (intOf v9).toNat - (intOf v8).toNat)
    case atStart => exact ⟨(a + b) / 2 + m - b, (a + b) / 2, by congr 1 <;> omega, by congr 1 <;> omega, Nat.le_refl _, by omega, Nat.le_refl _, hJ⟩
    case round =>
      obtain ⟨i, j, rfl, rfl, hi, hij, hj, hjj⟩ := hrel
      by_cases hlt : i < j
      · go_upto_if 126 with (go_at_call 101; refine (SL.out _ _ _ hjj (by omega) (by omega)).mono ?_; rintro _ w2 ⟨⟨c, rfl⟩, h2⟩)
        cases c with
        | true =>
          go_wp2_with fail
          exact ⟨⟨i, (i + j) / 2, rfl, by congr 1, hi, by omega, by omega, h2⟩, by simp [intOf]; omega⟩
        | false =>
          go_wp2_with fail
          exact ⟨⟨(i + j) / 2 + 1, j, by congr 1, rfl, by omega, by omega, hj, h2⟩, by simp [intOf]; omega⟩
      · obtain rfl : i = j := by omega
        go_wp2_with (first | (go_at_call 59; refine (SR.out _ _ _ (by omega) _ (by assumption)).mono ?_; rintro _ w5 ⟨rfl, h5⟩) | (go_at_call 49; refine (IZ.out _ _ _ (by omega) _ (by assumption)).mono ?_; rintro _ w6 ⟨rfl, h6⟩))
        all_goals
          go_end0
          exact ⟨rfl, by assumption⟩
  · have hmz : ¬ ((a : Int) + b) / 2 < m := by omega
    go_enter Tryf.func49, Tryf.ntmps49
    go_wp2_with fail
    go_loopw [18, 19] (RB2 J (a) (m)) (fun v8 v9 _ => (intOf v9).toNat - (intOf v8).toNat)
    case atStart => exact ⟨a, m, by congr 1 <;> omega, by congr 1 <;> omega, Nat.le_refl _, by omega, Nat.le_refl _, hJ⟩
    case round =>
      obtain ⟨i, j, rfl, rfl, hi, hij, hj, hjj⟩ := hrel
      by_cases hlt : i < j
      · go_upto_if 126 with (go_at_call 101; refine (SL.out _ _ _ hjj (by omega) (by omega)).mono ?_; rintro _ w2 ⟨⟨c, rfl⟩, h2⟩)
        cases c with
        | true =>
          go_wp2_with fail
          exact ⟨⟨i, (i + j) / 2, rfl, by congr 1, hi, by omega, by omega, h2⟩, by simp [intOf]; omega⟩
        | false =>
          go_wp2_with fail
          exact ⟨⟨(i + j) / 2 + 1, j, by congr 1, rfl, by omega, by omega, hj, h2⟩, by simp [intOf]; omega⟩
      · obtain rfl : i = j := by omega
        go_wp2_with (first | (go_at_call 59; refine (SR.out _ _ _ (by omega) _ (by assumption)).mono ?_; rintro _ w5 ⟨rfl, h5⟩) | (go_at_call 49; refine (IZ.out _ _ _ (by omega) _ (by assumption)).mono ?_; rintro _ w6 ⟨rfl, h6⟩))
        all_goals
          go_end0
          exact ⟨rfl, by assumption⟩
theorem symMerge (J : World → Prop) (g : Option Addr) (n cap : Nat) (S : Srt J g n cap) (hn : n ≤ 1048576) : ∀ (d a m b : Nat), b - a ≤ d → a < m → m < b → b ≤ n → ∀ w, J w → Calls Tryf.prog 49 #[ifc g n cap, i64 a, i64 m, i64 b] w (End0 J) := by
  intro d
  induction d with
  | zero => intro a m b h0 h1 h2; omega
  | succ d ih =>
    intro a m b h0 h1 h2 h3 w hJ
    by_cases c1 : m ≤ a + 1
    · exact sym1 J g n cap a m b S hn ⟨h1, c1⟩ h2 h3 w hJ
    · by_cases c2 : b ≤ m + 1
      · exact sym2 J g n cap a m b S hn (by omega) ⟨h2, c2⟩ h3 w hJ
      · exact sym3 J g n cap a m b S hn (by omega) (by omega) h3 (fun x y z k1 k2 k3 k4 w hJ => ih x y z (by omega) k1 k2 k3 w hJ) w hJ
end Go.Proofs.YtfnicbfdfceagaaFmt.lg
