/-
  Go's stable sort, walked: whatever a comparison and an exchange keep, it keeps (no order is shown).
-/
import Derived.Test.YtfnicbfdfceagaaFmtLe
namespace Go.Proofs.YtfnicbfdfceagaaFmt.lg
open Go.ChangeShapes Go.WideShapes Go.ChangeAt Go.RowKit Go.Deep
set_option linter.unusedVariables false
set_option linter.unusedSimpArgs false
set_option maxRecDepth 100000
set_option maxHeartbeats 4000000
abbrev sl (g : Option Addr) (n cap : Nat) : Value := .slice g n cap
abbrev ifc (g : Option Addr) (n cap : Nat) : Value := .iface 182 (sl g n cap)
theorem mthL (g : Option Addr) (n cap : Nat) (w : World) : (method 524 182 (sl g n cap) "Less").run Tryf.prog w = .ok (101, sl g n cap) w := by kernel_rfl
theorem mthS (g : Option Addr) (n cap : Nat) (w : World) : (method 524 182 (sl g n cap) "Swap").run Tryf.prog w = .ok (102, sl g n cap) w := by kernel_rfl
theorem mthN (g : Option Addr) (n cap : Nat) (w : World) : (method 524 182 (sl g n cap) "Len").run Tryf.prog w = .ok (100, sl g n cap) w := by kernel_rfl
/-- J holds through comparisons and exchanges. -/
structure Srt (J : World → Prop) (g : Option Addr) (n cap : Nat) : Prop where
  less : ∀ w (i j : Int), J w → 0 ≤ i ∧ i < n → 0 ≤ j ∧ j < n → Calls Tryf.prog 101 #[sl g n cap, i64 i, i64 j] w fun e w' => (∃ b, e = .returned (.bool b)) ∧ J w'
  swap : ∀ w (i j : Int), J w → 0 ≤ i ∧ i < n → 0 ≤ j ∧ j < n → Calls Tryf.prog 102 #[sl g n cap, i64 i, i64 j] w fun e w' => e = .returned (.tuple #[]) ∧ J w'
def End0 (J : World → Prop) (e : Ending) (w' : World) : Prop := e = .returned (.tuple #[]) ∧ J w'
def RS (J : World → Prop) (k : Nat) (v : Value) (wr : World) : Prop := ∃ i : Nat, v = i64 i ∧ i ≤ k ∧ J wr
theorem swapRange (J : World → Prop) (g : Option Addr) (n cap a b k : Nat) (S : Srt J g n cap) (hn : n ≤ 1048576) (ha : a + k ≤ n) (hb : b + k ≤ n) (w : World) (hJ : J w) :
    Calls Tryf.prog 61 #[ifc g n cap, i64 a, i64 b, i64 k] w (End0 J) := by
  have SS := Lib.hid S.swap
  have HJ := Lib.hid hJ
  have ms := mthS g n cap
  clear S hJ
  go_enter Tryf.func61, Tryf.ntmps61
  go_wp2_with fail
  go_loopw [8] (RS J k) (fun v _ => k - (intOf v).toNat)
  case atStart => exact ⟨0, rfl, Nat.zero_le _, HJ.out⟩
  case round =>
    obtain ⟨i, rfl, hi, hj⟩ := hrel
    have HJ2 := Lib.hid hj
    clear hj
    by_cases hlt : i < k
    · go_wp2_with (go_at_call 102; refine (SS.out _ _ _ HJ2.out (by omega) (by omega)).mono ?_; rintro _ w2 ⟨rfl, h2⟩; have H2 := Lib.hid h2; clear h2)
      exact ⟨⟨i + 1, rfl, by omega, H2.out⟩, by simp [intOf]; omega⟩
    · go_wp2_with fail
      go_end0
      exact ⟨rfl, HJ2.out⟩
def RR (J : World → Prop) (p q : Nat) (v8 v9 : Value) (wr : World) : Prop := ∃ i j : Nat, v8 = i64 i ∧ v9 = i64 j ∧ 0 < i ∧ i ≤ p ∧ 0 < j ∧ j ≤ q ∧ J wr
theorem rotate (J : World → Prop) (g : Option Addr) (n cap a m b : Nat) (S : Srt J g n cap) (hn : n ≤ 1048576) (h1 : a < m) (h2 : m < b) (h3 : b ≤ n) (w : World) (hJ : J w) :
    Calls Tryf.prog 59 #[ifc g n cap, i64 a, i64 m, i64 b] w (End0 J) := by
  have SR := Lib.hid fun (x y k : Int) (h : 0 ≤ x ∧ 0 ≤ y ∧ 0 ≤ k ∧ x + k ≤ n ∧ y + k ≤ n) (w : World) (hJ : J w) => (show Calls Tryf.prog 61 #[ifc g n cap, i64 x, i64 y, i64 k] w (End0 J) from by
    obtain ⟨x', rfl⟩ := Int.eq_ofNat_of_zero_le h.1
    obtain ⟨y', rfl⟩ := Int.eq_ofNat_of_zero_le h.2.1
    obtain ⟨k', rfl⟩ := Int.eq_ofNat_of_zero_le h.2.2.1
    exact swapRange J g n cap x' y' k' S hn (by omega) (by omega) w hJ)
  have HJ := Lib.hid hJ
  clear S hJ
  go_enter Tryf.func59, Tryf.ntmps59
  go_wp2_with fail
  go_loopw [8, 9] (RR J (m - a) (b - m)) (fun v8 v9 _ => (intOf v8).toNat + (intOf v9).toNat)
  case atStart => exact ⟨m - a, b - m, by congr 1; omega, by congr 1; omega, by omega, Nat.le_refl _, by omega, Nat.le_refl _, HJ.out⟩
  case round =>
    obtain ⟨i, j, rfl, rfl, hi0, hi, hj0, hj, hjj⟩ := hrel
    have HJ2 := Lib.hid hjj
    clear hjj
    rcases Nat.lt_trichotomy i j with hlt | hlt | hlt
    · have q1 : ((i : Int) != j) = true := by simp; omega
      go_wp2_with (go_at_call 61; refine (SR.out _ _ _ (by omega) _ HJ2.out).mono ?_; rintro _ w2 ⟨rfl, h2⟩; have H2 := Lib.hid h2; clear h2)
      exact ⟨⟨i, j - i, rfl, by congr 1; omega, hi0, hi, by omega, by omega, H2.out⟩, by simp [intOf]; omega⟩
    · subst hlt
      have q1 : ((i : Int) != i) = false := by simp
      go_wp2_with (go_at_call 61; refine (SR.out _ _ _ (by omega) _ HJ2.out).mono ?_; rintro _ w2 ⟨rfl, h2⟩; have H2 := Lib.hid h2; clear h2)
      go_end0
      exact ⟨rfl, H2.out⟩
    · have q1 : ((i : Int) != j) = true := by simp; omega
      go_wp2_with (go_at_call 61; refine (SR.out _ _ _ (by omega) _ HJ2.out).mono ?_; rintro _ w2 ⟨rfl, h2⟩; have H2 := Lib.hid h2; clear h2)
      exact ⟨⟨i - j, j, by congr 1; omega, rfl, by omega, by omega, hj0, hj, H2.out⟩, by simp [intOf]; omega⟩
def RI (J : World → Prop) (a b : Nat) (v : Value) (wr : World) : Prop := ∃ i : Nat, v = i64 i ∧ a < i ∧ (i ≤ b ∨ i = a + 1) ∧ J wr
def RJ (J : World → Prop) (a i : Nat) (v : Value) (wr : World) : Prop := ∃ j : Nat, v = i64 j ∧ a ≤ j ∧ j ≤ i ∧ J wr
theorem insSort (J : World → Prop) (g : Option Addr) (n cap a b : Nat) (S : Srt J g n cap) (hn : n ≤ 1048576) (ha : a ≤ n) (hb : b ≤ n) (w : World) (hJ : J w) :
    Calls Tryf.prog 48 #[ifc g n cap, i64 a, i64 b] w (End0 J) := by
  have SS := Lib.hid S.swap
  have SL := Lib.hid S.less
  have HJ := Lib.hid hJ
  have ms := mthS g n cap
  have ml := mthL g n cap
  clear S hJ
  go_enter Tryf.func48, Tryf.ntmps48
  go_wp2_with fail
  go_loopw [6] (RI J a b) (fun v _ => b + 1 - (intOf v).toNat)
  case atStart => exact ⟨a + 1, by congr 1, by omega, Or.inr rfl, HJ.out⟩
  case round =>
    obtain ⟨i, rfl, hai, hib, hj⟩ := hrel
    have HJ2 := Lib.hid hj
    clear hj
    by_cases hlt : i < b
    · go_wp2_with fail
      go_loopw [7] (RJ J a i) (fun v _ => (intOf v).toNat)
      case atStart => exact ⟨i, rfl, by omega, Nat.le_refl _, HJ2.out⟩
      case round =>
        obtain ⟨j, rfl, haj, hji, hjj⟩ := hrel
        have HJ3 := Lib.hid hjj
        clear hjj
        by_cases hj : a < j
        · go_upto_if 25 with (go_at_call 101; refine (SL.out _ _ _ HJ3.out (by omega) (by omega)).mono ?_; rintro _ w2 ⟨⟨c, rfl⟩, h2⟩; have H2 := Lib.hid h2; clear h2)
          cases c with
          | true =>
            go_wp2_with (go_at_call 102; refine (SS.out _ _ _ H2.out (by omega) (by omega)).mono ?_; rintro _ w3 ⟨rfl, h3⟩; have H3 := Lib.hid h3; clear h3)
            exact ⟨⟨j - 1, by congr 1; omega, by omega, by omega, H3.out⟩, by simp [intOf]; omega⟩
          | false =>
            go_wp2_with fail
            exact ⟨⟨i + 1, rfl, by omega, Or.inl (by omega), H2.out⟩, by simp [intOf]; omega⟩
        · go_wp2_with fail
          exact ⟨⟨i + 1, rfl, by omega, Or.inl (by omega), HJ3.out⟩, by simp [intOf]; omega⟩
    · go_wp2_with fail
      go_end0
      exact ⟨rfl, HJ2.out⟩
end Go.Proofs.YtfnicbfdfceagaaFmt.lg
