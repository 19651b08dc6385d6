/-
  Go's stable sort, walked: stable, Stable.
-/
import Derived.Test.YtfnicbfdfceagaaFmtLq
namespace Go.Proofs.YtfnicbfdfceagaaFmt.lg
open Go.ChangeShapes Go.WideShapes Go.ChangeAt Go.RowKit Go.Deep
set_option linter.unusedVariables false
set_option linter.unusedSimpArgs false
set_option maxRecDepth 100000
set_option maxHeartbeats 4000000
def RT (J : World → Prop) (n s : Nat) (v5 v6 : Value) (wr : World) : Prop := ∃ a : Nat, v5 = i64 a ∧ v6 = i64 ((a : Int) + s) ∧ a ≤ n ∧ J wr
def RU (J : World → Prop) (n : Nat) (v4 : Value) (wr : World) : Prop := ∃ s : Nat, v4 = i64 s ∧ 0 < s ∧ s ≤ 2 * n + 40 ∧ J wr
theorem stable32 (J : World → Prop) (g : Option Addr) (n cap : Nat) (S : Srt J g n cap) (hn : n ≤ 1048576) (w : World) (hJ : J w) : Calls Tryf.prog 32 #[ifc g n cap, i64 n] w (End0 J) := by
  have IS := Lib.hid fun (x y : Int) (h : 0 ≤ x ∧ x ≤ n ∧ 0 ≤ y ∧ y ≤ n) (w : World) (hJ : J w) => (show Calls Tryf.prog 48 #[ifc g n cap, i64 x, i64 y] w (End0 J) from by
    obtain ⟨x', rfl⟩ := Int.eq_ofNat_of_zero_le h.1
    obtain ⟨y', rfl⟩ := Int.eq_ofNat_of_zero_le h.2.2.1
    exact insSort J g n cap x' y' S hn (by omega) (by omega) w hJ)
  have IZ := Lib.hid fun (x y z : Int) (h : 0 ≤ x ∧ x < y ∧ y < z ∧ z ≤ n) (w : World) (hJ : J w) => (show Calls Tryf.prog 49 #[ifc g n cap, i64 x, i64 y, i64 z] w (End0 J) from by
    obtain ⟨x', rfl⟩ := Int.eq_ofNat_of_zero_le h.1
    obtain ⟨y', rfl⟩ := Int.eq_ofNat_of_zero_le (show 0 ≤ y by omega)
    obtain ⟨z', rfl⟩ := Int.eq_ofNat_of_zero_le (show 0 ≤ z by omega)
    exact symMerge J g n cap S hn (z' - x') x' y' z' (Nat.le_refl _) (by omega) (by omega) (by omega) w hJ)
  clear S
  go_enter Tryf.func32, Tryf.ntmps32
  go_wp2_with fail
  go_loopw [5, 6] (RT J n 20) (fun v5 _ _ => n - (intOf v5).toNat)
  case atStart => exact ⟨0, rfl, rfl, Nat.zero_le _, hJ⟩
  case round =>
    obtain ⟨a, rfl, rfl, ha, hjj⟩ := hrel
    by_cases h1 : a + 20 ≤ n
    · go_wp2_with (go_at_call 48; refine (IS.out _ _ (by omega) _ (by assumption)).mono ?_; rintro _ w2 ⟨rfl, h2⟩)
      exact ⟨⟨a + 20, by congr 1, by congr 1, by omega, h2⟩, by simp [intOf]; omega⟩
    · go_wp2_with (go_at_call 48; refine (IS.out _ _ (by omega) _ (by assumption)).mono ?_; rintro _ w2 ⟨rfl, h2⟩)
      go_loopw [4] (RU J n) (fun v4 _ => n - (intOf v4).toNat)
      case atStart => exact ⟨20, rfl, by omega, by omega, h2⟩
      case round =>
        obtain ⟨s, rfl, hs, hs2, hj3⟩ := hrel
        by_cases h3 : s < n
        · go_wp2_with fail
          go_loopw [5, 6] (RT J n (2 * s)) (fun v5 _ _ => n - (intOf v5).toNat)
          case atStart => exact ⟨0, rfl, by congr 1; omega, Nat.zero_le _, hj3⟩
          case round =>
            obtain ⟨x, rfl, rfl, hx, hj4⟩ := hrel
            by_cases h4 : x + 2 * s ≤ n
            · go_wp2_with (go_at_call 49; refine (IZ.out _ _ _ (by omega) _ (by assumption)).mono ?_; rintro _ w3 ⟨rfl, h5⟩)
              exact ⟨⟨x + 2 * s, by congr 1, by congr 1 <;> omega, by omega, h5⟩, by simp [intOf]; omega⟩
            · by_cases h6 : x + s < n
              · go_wp2_with (go_at_call 49; refine (IZ.out _ _ _ (by omega) _ (by assumption)).mono ?_; rintro _ w3 ⟨rfl, h5⟩)
                exact ⟨⟨s * 2, by congr 1, by omega, by omega, h5⟩, by simp [intOf]; omega⟩
              · go_wp2_with fail
                exact ⟨⟨s * 2, by congr 1, by omega, by omega, hj4⟩, by simp [intOf]; omega⟩
        · go_wp2_with fail
          go_end0
          exact ⟨rfl, hj3⟩
theorem stable26 (J : World → Prop) (g : Option Addr) (n cap : Nat) (S : Srt J g n cap) (hn : n ≤ 1048576) (w : World) (hJ : J w) : Calls Tryf.prog 26 #[ifc g n cap] w (End0 J) := by
  have IS := Lib.hid (stable32 J g n cap S hn)
  have mn := mthN g n cap
  clear S
  go_enter Tryf.func26, Tryf.ntmps26
  go_wp2_with (first | (go_at_call 32; refine (IS.out _ (by assumption)).mono ?_; rintro _ w2 ⟨rfl, h2⟩) | (go_at_call 100; go_in))
  go_end0
  exact ⟨rfl, h2⟩
end Go.Proofs.YtfnicbfdfceagaaFmt.lg
