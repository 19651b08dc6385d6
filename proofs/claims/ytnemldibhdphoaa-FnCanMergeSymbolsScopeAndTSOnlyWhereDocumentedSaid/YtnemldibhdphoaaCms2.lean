/-
  Walks of canMergeSymbols, by cases of the two kinds (part 2).
-/
import Derived.Test.YtnemldibhdphoaaCms
namespace Go.Proofs.Ytnemldibhdphoaa.cms
open Go.ChangeShapes Go.WideShapes Go.ChangeAt Go.RowKit
set_option linter.unusedVariables false

set_option linter.unusedSimpArgs false in
set_option maxRecDepth 100000 in
set_option maxHeartbeats 1000000 in
theorem cm_0_4 (b q : Nat) (ts : Bool) (sc : Int) (w : World) (c1 : w.cell? ⟨b, 32, none⟩ = some (.bool ts)) (c2 : w.cell? ⟨q, 15, none⟩ = some (.int .u8 sc)) :
    Calls Try.prog 6 #[.pointer (some ⟨b, 0, none⟩), .pointer (some ⟨q, 0, none⟩), .int .u8 0, .int .u8 4] w fun e w' => e = .returned (.int .i64 (cm ts sc 0 4)) ∧ w = w' := by
  have hv : Hid (∀ x : Int, x = cm ts sc 0 4 → Value.int .i64 x = .int .i64 (cm ts sc 0 4)) := Lib.hid (fun x h => by rw [h])
  have HN := Lib.hid (hof 4 true (by decide))
  have HE := Lib.hid (hof 0 false (by decide))
  have HO := Lib.hid (hoisted 4 false (by decide))
  cases ts
  all_goals
    go_enter Try.func6, Try.ntmps6
    go_wp2_with (first | (go_at_call 7; with_reducible refine (HN.out _).mono ?_; rintro e w' ⟨rfl, rfl⟩) | (go_at_call 7; with_reducible refine (HE.out _).mono ?_; rintro e w' ⟨rfl, rfl⟩) | (go_at_call 8; with_reducible refine (HO.out _).mono ?_; rintro e w' ⟨rfl, rfl⟩))
    go_ret
    exact ⟨congrArg Ending.returned (hv.out _ (by simp [cm])), rfl⟩
set_option linter.unusedSimpArgs false in
set_option maxRecDepth 100000 in
set_option maxHeartbeats 1000000 in
theorem cm_0_16 (b q : Nat) (ts : Bool) (sc : Int) (w : World) (c1 : w.cell? ⟨b, 32, none⟩ = some (.bool ts)) (c2 : w.cell? ⟨q, 15, none⟩ = some (.int .u8 sc)) :
    Calls Try.prog 6 #[.pointer (some ⟨b, 0, none⟩), .pointer (some ⟨q, 0, none⟩), .int .u8 0, .int .u8 16] w fun e w' => e = .returned (.int .i64 (cm ts sc 0 16)) ∧ w = w' := by
  have hv : Hid (∀ x : Int, x = cm ts sc 0 16 → Value.int .i64 x = .int .i64 (cm ts sc 0 16)) := Lib.hid (fun x h => by rw [h])
  have HN := Lib.hid (hof 16 false (by decide))
  have HE := Lib.hid (hof 0 false (by decide))
  have HO := Lib.hid (hoisted 16 false (by decide))
  cases ts
  all_goals
    go_enter Try.func6, Try.ntmps6
    go_wp2_with (first | (go_at_call 7; with_reducible refine (HN.out _).mono ?_; rintro e w' ⟨rfl, rfl⟩) | (go_at_call 7; with_reducible refine (HE.out _).mono ?_; rintro e w' ⟨rfl, rfl⟩) | (go_at_call 8; with_reducible refine (HO.out _).mono ?_; rintro e w' ⟨rfl, rfl⟩))
    go_ret
    exact ⟨congrArg Ending.returned (hv.out _ (by simp [cm])), rfl⟩
set_option linter.unusedSimpArgs false in
set_option maxRecDepth 100000 in
set_option maxHeartbeats 1000000 in
theorem cm_1_1_6 (b q : Nat) (ts : Bool) (w : World) (c1 : w.cell? ⟨b, 32, none⟩ = some (.bool ts)) (c2 : w.cell? ⟨q, 15, none⟩ = some (.int .u8 6)) :
    Calls Try.prog 6 #[.pointer (some ⟨b, 0, none⟩), .pointer (some ⟨q, 0, none⟩), .int .u8 1, .int .u8 1] w fun e w' => e = .returned (.int .i64 (cm ts 6 1 1)) ∧ w = w' := by
  have hv : Hid (∀ x : Int, x = cm ts 6 1 1 → Value.int .i64 x = .int .i64 (cm ts 6 1 1)) := Lib.hid (fun x h => by rw [h])
  have HN := Lib.hid (hof 1 true (by decide))
  have HE := Lib.hid (hof 1 true (by decide))
  have HO := Lib.hid (hoisted 1 true (by decide))
  cases ts
  all_goals
    go_enter Try.func6, Try.ntmps6
    go_wp2_with (first | (go_at_call 7; with_reducible refine (HN.out _).mono ?_; rintro e w' ⟨rfl, rfl⟩) | (go_at_call 7; with_reducible refine (HE.out _).mono ?_; rintro e w' ⟨rfl, rfl⟩) | (go_at_call 8; with_reducible refine (HO.out _).mono ?_; rintro e w' ⟨rfl, rfl⟩))
    go_ret
    exact ⟨congrArg Ending.returned (hv.out _ (by simp [cm])), rfl⟩
set_option linter.unusedSimpArgs false in
set_option maxRecDepth 100000 in
set_option maxHeartbeats 1000000 in
theorem cm_1_2_6 (b q : Nat) (ts : Bool) (w : World) (c1 : w.cell? ⟨b, 32, none⟩ = some (.bool ts)) (c2 : w.cell? ⟨q, 15, none⟩ = some (.int .u8 6)) :
    Calls Try.prog 6 #[.pointer (some ⟨b, 0, none⟩), .pointer (some ⟨q, 0, none⟩), .int .u8 1, .int .u8 2] w fun e w' => e = .returned (.int .i64 (cm ts 6 1 2)) ∧ w = w' := by
  have hv : Hid (∀ x : Int, x = cm ts 6 1 2 → Value.int .i64 x = .int .i64 (cm ts 6 1 2)) := Lib.hid (fun x h => by rw [h])
  have HN := Lib.hid (hof 2 true (by decide))
  have HE := Lib.hid (hof 1 true (by decide))
  have HO := Lib.hid (hoisted 2 true (by decide))
  cases ts
  all_goals
    go_enter Try.func6, Try.ntmps6
    go_wp2_with (first | (go_at_call 7; with_reducible refine (HN.out _).mono ?_; rintro e w' ⟨rfl, rfl⟩) | (go_at_call 7; with_reducible refine (HE.out _).mono ?_; rintro e w' ⟨rfl, rfl⟩) | (go_at_call 8; with_reducible refine (HO.out _).mono ?_; rintro e w' ⟨rfl, rfl⟩))
    go_ret
    exact ⟨congrArg Ending.returned (hv.out _ (by simp [cm])), rfl⟩
set_option linter.unusedSimpArgs false in
set_option maxRecDepth 100000 in
set_option maxHeartbeats 1000000 in
theorem cm_1_4_6 (b q : Nat) (ts : Bool) (w : World) (c1 : w.cell? ⟨b, 32, none⟩ = some (.bool ts)) (c2 : w.cell? ⟨q, 15, none⟩ = some (.int .u8 6)) :
    Calls Try.prog 6 #[.pointer (some ⟨b, 0, none⟩), .pointer (some ⟨q, 0, none⟩), .int .u8 1, .int .u8 4] w fun e w' => e = .returned (.int .i64 (cm ts 6 1 4)) ∧ w = w' := by
  have hv : Hid (∀ x : Int, x = cm ts 6 1 4 → Value.int .i64 x = .int .i64 (cm ts 6 1 4)) := Lib.hid (fun x h => by rw [h])
  have HN := Lib.hid (hof 4 true (by decide))
  have HE := Lib.hid (hof 1 true (by decide))
  have HO := Lib.hid (hoisted 4 false (by decide))
  cases ts
  all_goals
    go_enter Try.func6, Try.ntmps6
    go_wp2_with (first | (go_at_call 7; with_reducible refine (HN.out _).mono ?_; rintro e w' ⟨rfl, rfl⟩) | (go_at_call 7; with_reducible refine (HE.out _).mono ?_; rintro e w' ⟨rfl, rfl⟩) | (go_at_call 8; with_reducible refine (HO.out _).mono ?_; rintro e w' ⟨rfl, rfl⟩))
    go_ret
    exact ⟨congrArg Ending.returned (hv.out _ (by simp [cm])), rfl⟩
set_option linter.unusedSimpArgs false in
set_option maxRecDepth 100000 in
set_option maxHeartbeats 1000000 in
theorem cm_1_10 (b q : Nat) (ts : Bool) (sc : Int) (w : World) (c1 : w.cell? ⟨b, 32, none⟩ = some (.bool ts)) (c2 : w.cell? ⟨q, 15, none⟩ = some (.int .u8 sc)) :
    Calls Try.prog 6 #[.pointer (some ⟨b, 0, none⟩), .pointer (some ⟨q, 0, none⟩), .int .u8 1, .int .u8 10] w fun e w' => e = .returned (.int .i64 (cm ts sc 1 10)) ∧ w = w' := by
  have hv : Hid (∀ x : Int, x = cm ts sc 1 10 → Value.int .i64 x = .int .i64 (cm ts sc 1 10)) := Lib.hid (fun x h => by rw [h])
  have HN := Lib.hid (hof 10 false (by decide))
  have HE := Lib.hid (hof 1 true (by decide))
  have HO := Lib.hid (hoisted 10 false (by decide))
  cases ts
  all_goals
    go_enter Try.func6, Try.ntmps6
    go_wp2_with (first | (go_at_call 7; with_reducible refine (HN.out _).mono ?_; rintro e w' ⟨rfl, rfl⟩) | (go_at_call 7; with_reducible refine (HE.out _).mono ?_; rintro e w' ⟨rfl, rfl⟩) | (go_at_call 8; with_reducible refine (HO.out _).mono ?_; rintro e w' ⟨rfl, rfl⟩))
    go_ret
    exact ⟨congrArg Ending.returned (hv.out _ (by simp [cm])), rfl⟩
set_option linter.unusedSimpArgs false in
set_option maxRecDepth 100000 in
set_option maxHeartbeats 1000000 in
theorem cm_1_19 (b q : Nat) (ts : Bool) (sc : Int) (w : World) (c1 : w.cell? ⟨b, 32, none⟩ = some (.bool ts)) (c2 : w.cell? ⟨q, 15, none⟩ = some (.int .u8 sc)) :
    Calls Try.prog 6 #[.pointer (some ⟨b, 0, none⟩), .pointer (some ⟨q, 0, none⟩), .int .u8 1, .int .u8 19] w fun e w' => e = .returned (.int .i64 (cm ts sc 1 19)) ∧ w = w' := by
  have hv : Hid (∀ x : Int, x = cm ts sc 1 19 → Value.int .i64 x = .int .i64 (cm ts sc 1 19)) := Lib.hid (fun x h => by rw [h])
  have HN := Lib.hid (hof 19 false (by decide))
  have HE := Lib.hid (hof 1 true (by decide))
  have HO := Lib.hid (hoisted 19 false (by decide))
  cases ts
  all_goals
    go_enter Try.func6, Try.ntmps6
    go_wp2_with (first | (go_at_call 7; with_reducible refine (HN.out _).mono ?_; rintro e w' ⟨rfl, rfl⟩) | (go_at_call 7; with_reducible refine (HE.out _).mono ?_; rintro e w' ⟨rfl, rfl⟩) | (go_at_call 8; with_reducible refine (HO.out _).mono ?_; rintro e w' ⟨rfl, rfl⟩))
    go_ret
    exact ⟨congrArg Ending.returned (hv.out _ (by simp [cm])), rfl⟩
set_option linter.unusedSimpArgs false in
set_option maxRecDepth 100000 in
set_option maxHeartbeats 1000000 in
theorem cm_2_1_8 (b q : Nat) (ts : Bool) (w : World) (c1 : w.cell? ⟨b, 32, none⟩ = some (.bool ts)) (c2 : w.cell? ⟨q, 15, none⟩ = some (.int .u8 8)) :
    Calls Try.prog 6 #[.pointer (some ⟨b, 0, none⟩), .pointer (some ⟨q, 0, none⟩), .int .u8 2, .int .u8 1] w fun e w' => e = .returned (.int .i64 (cm ts 8 2 1)) ∧ w = w' := by
  have hv : Hid (∀ x : Int, x = cm ts 8 2 1 → Value.int .i64 x = .int .i64 (cm ts 8 2 1)) := Lib.hid (fun x h => by rw [h])
  have HN := Lib.hid (hof 1 true (by decide))
  have HE := Lib.hid (hof 2 true (by decide))
  have HO := Lib.hid (hoisted 1 true (by decide))
  cases ts
  all_goals
    go_enter Try.func6, Try.ntmps6
    go_wp2_with (first | (go_at_call 7; with_reducible refine (HN.out _).mono ?_; rintro e w' ⟨rfl, rfl⟩) | (go_at_call 7; with_reducible refine (HE.out _).mono ?_; rintro e w' ⟨rfl, rfl⟩) | (go_at_call 8; with_reducible refine (HO.out _).mono ?_; rintro e w' ⟨rfl, rfl⟩))
    go_ret
    exact ⟨congrArg Ending.returned (hv.out _ (by simp [cm])), rfl⟩
set_option linter.unusedSimpArgs false in
set_option maxRecDepth 100000 in
set_option maxHeartbeats 1000000 in
theorem cm_2_2_8 (b q : Nat) (ts : Bool) (w : World) (c1 : w.cell? ⟨b, 32, none⟩ = some (.bool ts)) (c2 : w.cell? ⟨q, 15, none⟩ = some (.int .u8 8)) :
    Calls Try.prog 6 #[.pointer (some ⟨b, 0, none⟩), .pointer (some ⟨q, 0, none⟩), .int .u8 2, .int .u8 2] w fun e w' => e = .returned (.int .i64 (cm ts 8 2 2)) ∧ w = w' := by
  have hv : Hid (∀ x : Int, x = cm ts 8 2 2 → Value.int .i64 x = .int .i64 (cm ts 8 2 2)) := Lib.hid (fun x h => by rw [h])
  have HN := Lib.hid (hof 2 true (by decide))
  have HE := Lib.hid (hof 2 true (by decide))
  have HO := Lib.hid (hoisted 2 true (by decide))
  cases ts
  all_goals
    go_enter Try.func6, Try.ntmps6
    go_wp2_with (first | (go_at_call 7; with_reducible refine (HN.out _).mono ?_; rintro e w' ⟨rfl, rfl⟩) | (go_at_call 7; with_reducible refine (HE.out _).mono ?_; rintro e w' ⟨rfl, rfl⟩) | (go_at_call 8; with_reducible refine (HO.out _).mono ?_; rintro e w' ⟨rfl, rfl⟩))
    go_ret
    exact ⟨congrArg Ending.returned (hv.out _ (by simp [cm])), rfl⟩
set_option linter.unusedSimpArgs false in
set_option maxRecDepth 100000 in
set_option maxHeartbeats 1000000 in
theorem cm_2_4_8 (b q : Nat) (ts : Bool) (w : World) (c1 : w.cell? ⟨b, 32, none⟩ = some (.bool ts)) (c2 : w.cell? ⟨q, 15, none⟩ = some (.int .u8 8)) :
    Calls Try.prog 6 #[.pointer (some ⟨b, 0, none⟩), .pointer (some ⟨q, 0, none⟩), .int .u8 2, .int .u8 4] w fun e w' => e = .returned (.int .i64 (cm ts 8 2 4)) ∧ w = w' := by
  have hv : Hid (∀ x : Int, x = cm ts 8 2 4 → Value.int .i64 x = .int .i64 (cm ts 8 2 4)) := Lib.hid (fun x h => by rw [h])
  have HN := Lib.hid (hof 4 true (by decide))
  have HE := Lib.hid (hof 2 true (by decide))
  have HO := Lib.hid (hoisted 4 false (by decide))
  cases ts
  all_goals
    go_enter Try.func6, Try.ntmps6
    go_wp2_with (first | (go_at_call 7; with_reducible refine (HN.out _).mono ?_; rintro e w' ⟨rfl, rfl⟩) | (go_at_call 7; with_reducible refine (HE.out _).mono ?_; rintro e w' ⟨rfl, rfl⟩) | (go_at_call 8; with_reducible refine (HO.out _).mono ?_; rintro e w' ⟨rfl, rfl⟩))
    go_ret
    exact ⟨congrArg Ending.returned (hv.out _ (by simp [cm])), rfl⟩
set_option linter.unusedSimpArgs false in
set_option maxRecDepth 100000 in
set_option maxHeartbeats 1000000 in
theorem cm_2_11 (b q : Nat) (ts : Bool) (sc : Int) (w : World) (c1 : w.cell? ⟨b, 32, none⟩ = some (.bool ts)) (c2 : w.cell? ⟨q, 15, none⟩ = some (.int .u8 sc)) :
    Calls Try.prog 6 #[.pointer (some ⟨b, 0, none⟩), .pointer (some ⟨q, 0, none⟩), .int .u8 2, .int .u8 11] w fun e w' => e = .returned (.int .i64 (cm ts sc 2 11)) ∧ w = w' := by
  have hv : Hid (∀ x : Int, x = cm ts sc 2 11 → Value.int .i64 x = .int .i64 (cm ts sc 2 11)) := Lib.hid (fun x h => by rw [h])
  have HN := Lib.hid (hof 11 false (by decide))
  have HE := Lib.hid (hof 2 true (by decide))
  have HO := Lib.hid (hoisted 11 false (by decide))
  cases ts
  all_goals
    go_enter Try.func6, Try.ntmps6
    go_wp2_with (first | (go_at_call 7; with_reducible refine (HN.out _).mono ?_; rintro e w' ⟨rfl, rfl⟩) | (go_at_call 7; with_reducible refine (HE.out _).mono ?_; rintro e w' ⟨rfl, rfl⟩) | (go_at_call 8; with_reducible refine (HO.out _).mono ?_; rintro e w' ⟨rfl, rfl⟩))
    go_ret
    exact ⟨congrArg Ending.returned (hv.out _ (by simp [cm])), rfl⟩
set_option linter.unusedSimpArgs false in
set_option maxRecDepth 100000 in
set_option maxHeartbeats 1000000 in
theorem cm_2_20 (b q : Nat) (ts : Bool) (sc : Int) (w : World) (c1 : w.cell? ⟨b, 32, none⟩ = some (.bool ts)) (c2 : w.cell? ⟨q, 15, none⟩ = some (.int .u8 sc)) :
    Calls Try.prog 6 #[.pointer (some ⟨b, 0, none⟩), .pointer (some ⟨q, 0, none⟩), .int .u8 2, .int .u8 20] w fun e w' => e = .returned (.int .i64 (cm ts sc 2 20)) ∧ w = w' := by
  have hv : Hid (∀ x : Int, x = cm ts sc 2 20 → Value.int .i64 x = .int .i64 (cm ts sc 2 20)) := Lib.hid (fun x h => by rw [h])
  have HN := Lib.hid (hof 20 false (by decide))
  have HE := Lib.hid (hof 2 true (by decide))
  have HO := Lib.hid (hoisted 20 false (by decide))
  cases ts
  all_goals
    go_enter Try.func6, Try.ntmps6
    go_wp2_with (first | (go_at_call 7; with_reducible refine (HN.out _).mono ?_; rintro e w' ⟨rfl, rfl⟩) | (go_at_call 7; with_reducible refine (HE.out _).mono ?_; rintro e w' ⟨rfl, rfl⟩) | (go_at_call 8; with_reducible refine (HO.out _).mono ?_; rintro e w' ⟨rfl, rfl⟩))
    go_ret
    exact ⟨congrArg Ending.returned (hv.out _ (by simp [cm])), rfl⟩
set_option linter.unusedSimpArgs false in
set_option maxRecDepth 100000 in
set_option maxHeartbeats 1000000 in
theorem cm_3_4 (b q : Nat) (ts : Bool) (sc : Int) (w : World) (c1 : w.cell? ⟨b, 32, none⟩ = some (.bool ts)) (c2 : w.cell? ⟨q, 15, none⟩ = some (.int .u8 sc)) :
    Calls Try.prog 6 #[.pointer (some ⟨b, 0, none⟩), .pointer (some ⟨q, 0, none⟩), .int .u8 3, .int .u8 4] w fun e w' => e = .returned (.int .i64 (cm ts sc 3 4)) ∧ w = w' := by
  have hv : Hid (∀ x : Int, x = cm ts sc 3 4 → Value.int .i64 x = .int .i64 (cm ts sc 3 4)) := Lib.hid (fun x h => by rw [h])
  have HN := Lib.hid (hof 4 true (by decide))
  have HE := Lib.hid (hof 3 false (by decide))
  have HO := Lib.hid (hoisted 4 false (by decide))
  cases ts
  all_goals
    go_enter Try.func6, Try.ntmps6
    go_wp2_with (first | (go_at_call 7; with_reducible refine (HN.out _).mono ?_; rintro e w' ⟨rfl, rfl⟩) | (go_at_call 7; with_reducible refine (HE.out _).mono ?_; rintro e w' ⟨rfl, rfl⟩) | (go_at_call 8; with_reducible refine (HO.out _).mono ?_; rintro e w' ⟨rfl, rfl⟩))
    go_ret
    exact ⟨congrArg Ending.returned (hv.out _ (by simp [cm])), rfl⟩
set_option linter.unusedSimpArgs false in
set_option maxRecDepth 100000 in
set_option maxHeartbeats 1000000 in
theorem cm_3_16 (b q : Nat) (ts : Bool) (sc : Int) (w : World) (c1 : w.cell? ⟨b, 32, none⟩ = some (.bool ts)) (c2 : w.cell? ⟨q, 15, none⟩ = some (.int .u8 sc)) :
    Calls Try.prog 6 #[.pointer (some ⟨b, 0, none⟩), .pointer (some ⟨q, 0, none⟩), .int .u8 3, .int .u8 16] w fun e w' => e = .returned (.int .i64 (cm ts sc 3 16)) ∧ w = w' := by
  have hv : Hid (∀ x : Int, x = cm ts sc 3 16 → Value.int .i64 x = .int .i64 (cm ts sc 3 16)) := Lib.hid (fun x h => by rw [h])
  have HN := Lib.hid (hof 16 false (by decide))
  have HE := Lib.hid (hof 3 false (by decide))
  have HO := Lib.hid (hoisted 16 false (by decide))
  cases ts
  all_goals
    go_enter Try.func6, Try.ntmps6
    go_wp2_with (first | (go_at_call 7; with_reducible refine (HN.out _).mono ?_; rintro e w' ⟨rfl, rfl⟩) | (go_at_call 7; with_reducible refine (HE.out _).mono ?_; rintro e w' ⟨rfl, rfl⟩) | (go_at_call 8; with_reducible refine (HO.out _).mono ?_; rintro e w' ⟨rfl, rfl⟩))
    go_ret
    exact ⟨congrArg Ending.returned (hv.out _ (by simp [cm])), rfl⟩
set_option linter.unusedSimpArgs false in
set_option maxRecDepth 100000 in
set_option maxHeartbeats 1000000 in
theorem cm_4_1_6 (b q : Nat) (ts : Bool) (w : World) (c1 : w.cell? ⟨b, 32, none⟩ = some (.bool ts)) (c2 : w.cell? ⟨q, 15, none⟩ = some (.int .u8 6)) :
    Calls Try.prog 6 #[.pointer (some ⟨b, 0, none⟩), .pointer (some ⟨q, 0, none⟩), .int .u8 4, .int .u8 1] w fun e w' => e = .returned (.int .i64 (cm ts 6 4 1)) ∧ w = w' := by
  have hv : Hid (∀ x : Int, x = cm ts 6 4 1 → Value.int .i64 x = .int .i64 (cm ts 6 4 1)) := Lib.hid (fun x h => by rw [h])
  have HN := Lib.hid (hof 1 true (by decide))
  have HE := Lib.hid (hof 4 true (by decide))
  have HO := Lib.hid (hoisted 1 true (by decide))
  cases ts
  all_goals
    go_enter Try.func6, Try.ntmps6
    go_wp2_with (first | (go_at_call 7; with_reducible refine (HN.out _).mono ?_; rintro e w' ⟨rfl, rfl⟩) | (go_at_call 7; with_reducible refine (HE.out _).mono ?_; rintro e w' ⟨rfl, rfl⟩) | (go_at_call 8; with_reducible refine (HO.out _).mono ?_; rintro e w' ⟨rfl, rfl⟩))
    go_ret
    exact ⟨congrArg Ending.returned (hv.out _ (by simp [cm])), rfl⟩
set_option linter.unusedSimpArgs false in
set_option maxRecDepth 100000 in
set_option maxHeartbeats 1000000 in
theorem cm_4_2_6 (b q : Nat) (ts : Bool) (w : World) (c1 : w.cell? ⟨b, 32, none⟩ = some (.bool ts)) (c2 : w.cell? ⟨q, 15, none⟩ = some (.int .u8 6)) :
    Calls Try.prog 6 #[.pointer (some ⟨b, 0, none⟩), .pointer (some ⟨q, 0, none⟩), .int .u8 4, .int .u8 2] w fun e w' => e = .returned (.int .i64 (cm ts 6 4 2)) ∧ w = w' := by
  have hv : Hid (∀ x : Int, x = cm ts 6 4 2 → Value.int .i64 x = .int .i64 (cm ts 6 4 2)) := Lib.hid (fun x h => by rw [h])
  have HN := Lib.hid (hof 2 true (by decide))
  have HE := Lib.hid (hof 4 true (by decide))
  have HO := Lib.hid (hoisted 2 true (by decide))
  cases ts
  all_goals
    go_enter Try.func6, Try.ntmps6
    go_wp2_with (first | (go_at_call 7; with_reducible refine (HN.out _).mono ?_; rintro e w' ⟨rfl, rfl⟩) | (go_at_call 7; with_reducible refine (HE.out _).mono ?_; rintro e w' ⟨rfl, rfl⟩) | (go_at_call 8; with_reducible refine (HO.out _).mono ?_; rintro e w' ⟨rfl, rfl⟩))
    go_ret
    exact ⟨congrArg Ending.returned (hv.out _ (by simp [cm])), rfl⟩
set_option linter.unusedSimpArgs false in
set_option maxRecDepth 100000 in
set_option maxHeartbeats 1000000 in
theorem cm_4_4_6 (b q : Nat) (ts : Bool) (w : World) (c1 : w.cell? ⟨b, 32, none⟩ = some (.bool ts)) (c2 : w.cell? ⟨q, 15, none⟩ = some (.int .u8 6)) :
    Calls Try.prog 6 #[.pointer (some ⟨b, 0, none⟩), .pointer (some ⟨q, 0, none⟩), .int .u8 4, .int .u8 4] w fun e w' => e = .returned (.int .i64 (cm ts 6 4 4)) ∧ w = w' := by
  have hv : Hid (∀ x : Int, x = cm ts 6 4 4 → Value.int .i64 x = .int .i64 (cm ts 6 4 4)) := Lib.hid (fun x h => by rw [h])
  have HN := Lib.hid (hof 4 true (by decide))
  have HE := Lib.hid (hof 4 true (by decide))
  have HO := Lib.hid (hoisted 4 false (by decide))
  cases ts
  all_goals
    go_enter Try.func6, Try.ntmps6
    go_wp2_with (first | (go_at_call 7; with_reducible refine (HN.out _).mono ?_; rintro e w' ⟨rfl, rfl⟩) | (go_at_call 7; with_reducible refine (HE.out _).mono ?_; rintro e w' ⟨rfl, rfl⟩) | (go_at_call 8; with_reducible refine (HO.out _).mono ?_; rintro e w' ⟨rfl, rfl⟩))
    go_ret
    exact ⟨congrArg Ending.returned (hv.out _ (by simp [cm])), rfl⟩
set_option linter.unusedSimpArgs false in
set_option maxRecDepth 100000 in
set_option maxHeartbeats 1000000 in
theorem cm_4_10 (b q : Nat) (ts : Bool) (sc : Int) (w : World) (c1 : w.cell? ⟨b, 32, none⟩ = some (.bool ts)) (c2 : w.cell? ⟨q, 15, none⟩ = some (.int .u8 sc)) :
    Calls Try.prog 6 #[.pointer (some ⟨b, 0, none⟩), .pointer (some ⟨q, 0, none⟩), .int .u8 4, .int .u8 10] w fun e w' => e = .returned (.int .i64 (cm ts sc 4 10)) ∧ w = w' := by
  have hv : Hid (∀ x : Int, x = cm ts sc 4 10 → Value.int .i64 x = .int .i64 (cm ts sc 4 10)) := Lib.hid (fun x h => by rw [h])
  have HN := Lib.hid (hof 10 false (by decide))
  have HE := Lib.hid (hof 4 true (by decide))
  have HO := Lib.hid (hoisted 10 false (by decide))
  cases ts
  all_goals
    go_enter Try.func6, Try.ntmps6
    go_wp2_with (first | (go_at_call 7; with_reducible refine (HN.out _).mono ?_; rintro e w' ⟨rfl, rfl⟩) | (go_at_call 7; with_reducible refine (HE.out _).mono ?_; rintro e w' ⟨rfl, rfl⟩) | (go_at_call 8; with_reducible refine (HO.out _).mono ?_; rintro e w' ⟨rfl, rfl⟩))
    go_ret
    exact ⟨congrArg Ending.returned (hv.out _ (by simp [cm])), rfl⟩
set_option linter.unusedSimpArgs false in
set_option maxRecDepth 100000 in
set_option maxHeartbeats 1000000 in
theorem cm_4_19 (b q : Nat) (ts : Bool) (sc : Int) (w : World) (c1 : w.cell? ⟨b, 32, none⟩ = some (.bool ts)) (c2 : w.cell? ⟨q, 15, none⟩ = some (.int .u8 sc)) :
    Calls Try.prog 6 #[.pointer (some ⟨b, 0, none⟩), .pointer (some ⟨q, 0, none⟩), .int .u8 4, .int .u8 19] w fun e w' => e = .returned (.int .i64 (cm ts sc 4 19)) ∧ w = w' := by
  have hv : Hid (∀ x : Int, x = cm ts sc 4 19 → Value.int .i64 x = .int .i64 (cm ts sc 4 19)) := Lib.hid (fun x h => by rw [h])
  have HN := Lib.hid (hof 19 false (by decide))
  have HE := Lib.hid (hof 4 true (by decide))
  have HO := Lib.hid (hoisted 19 false (by decide))
  cases ts
  all_goals
    go_enter Try.func6, Try.ntmps6
    go_wp2_with (first | (go_at_call 7; with_reducible refine (HN.out _).mono ?_; rintro e w' ⟨rfl, rfl⟩) | (go_at_call 7; with_reducible refine (HE.out _).mono ?_; rintro e w' ⟨rfl, rfl⟩) | (go_at_call 8; with_reducible refine (HO.out _).mono ?_; rintro e w' ⟨rfl, rfl⟩))
    go_ret
    exact ⟨congrArg Ending.returned (hv.out _ (by simp [cm])), rfl⟩
set_option linter.unusedSimpArgs false in
set_option maxRecDepth 100000 in
set_option maxHeartbeats 1000000 in
theorem cm_5_2 (b q : Nat) (ts : Bool) (sc : Int) (w : World) (c1 : w.cell? ⟨b, 32, none⟩ = some (.bool ts)) (c2 : w.cell? ⟨q, 15, none⟩ = some (.int .u8 sc)) :
    Calls Try.prog 6 #[.pointer (some ⟨b, 0, none⟩), .pointer (some ⟨q, 0, none⟩), .int .u8 5, .int .u8 2] w fun e w' => e = .returned (.int .i64 (cm ts sc 5 2)) ∧ w = w' := by
  have hv : Hid (∀ x : Int, x = cm ts sc 5 2 → Value.int .i64 x = .int .i64 (cm ts sc 5 2)) := Lib.hid (fun x h => by rw [h])
  have HN := Lib.hid (hof 2 true (by decide))
  have HE := Lib.hid (hof 5 false (by decide))
  have HO := Lib.hid (hoisted 2 true (by decide))
  cases ts
  all_goals
    go_enter Try.func6, Try.ntmps6
    go_wp2_with (first | (go_at_call 7; with_reducible refine (HN.out _).mono ?_; rintro e w' ⟨rfl, rfl⟩) | (go_at_call 7; with_reducible refine (HE.out _).mono ?_; rintro e w' ⟨rfl, rfl⟩) | (go_at_call 8; with_reducible refine (HO.out _).mono ?_; rintro e w' ⟨rfl, rfl⟩))
    go_ret
    exact ⟨congrArg Ending.returned (hv.out _ (by simp [cm])), rfl⟩
set_option linter.unusedSimpArgs false in
set_option maxRecDepth 100000 in
set_option maxHeartbeats 1000000 in
theorem cm_5_15 (b q : Nat) (ts : Bool) (sc : Int) (w : World) (c1 : w.cell? ⟨b, 32, none⟩ = some (.bool ts)) (c2 : w.cell? ⟨q, 15, none⟩ = some (.int .u8 sc)) :
    Calls Try.prog 6 #[.pointer (some ⟨b, 0, none⟩), .pointer (some ⟨q, 0, none⟩), .int .u8 5, .int .u8 15] w fun e w' => e = .returned (.int .i64 (cm ts sc 5 15)) ∧ w = w' := by
  have hv : Hid (∀ x : Int, x = cm ts sc 5 15 → Value.int .i64 x = .int .i64 (cm ts sc 5 15)) := Lib.hid (fun x h => by rw [h])
  have HN := Lib.hid (hof 15 false (by decide))
  have HE := Lib.hid (hof 5 false (by decide))
  have HO := Lib.hid (hoisted 15 false (by decide))
  cases ts
  all_goals
    go_enter Try.func6, Try.ntmps6
    go_wp2_with (first | (go_at_call 7; with_reducible refine (HN.out _).mono ?_; rintro e w' ⟨rfl, rfl⟩) | (go_at_call 7; with_reducible refine (HE.out _).mono ?_; rintro e w' ⟨rfl, rfl⟩) | (go_at_call 8; with_reducible refine (HO.out _).mono ?_; rintro e w' ⟨rfl, rfl⟩))
    go_ret
    exact ⟨congrArg Ending.returned (hv.out _ (by simp [cm])), rfl⟩
set_option linter.unusedSimpArgs false in
set_option maxRecDepth 100000 in
set_option maxHeartbeats 1000000 in
theorem cm_5_x (b q : Nat) (ts : Bool) (sc : Int) (nw : Int) (w : World) (c1 : w.cell? ⟨b, 32, none⟩ = some (.bool ts)) (c2 : w.cell? ⟨q, 15, none⟩ = some (.int .u8 sc)) (n1 : nw ≠ 1) (n2 : nw ≠ 2) (n4 : nw ≠ 4) (n10 : nw ≠ 10) (n11 : nw ≠ 11) (n15 : nw ≠ 15) (n16 : nw ≠ 16) (n19 : nw ≠ 19) (n20 : nw ≠ 20) :
    Calls Try.prog 6 #[.pointer (some ⟨b, 0, none⟩), .pointer (some ⟨q, 0, none⟩), .int .u8 5, .int .u8 nw] w fun e w' => e = .returned (.int .i64 (cm ts sc 5 nw)) ∧ w = w' := by
  have hv : Hid (∀ x : Int, x = cm ts sc 5 nw → Value.int .i64 x = .int .i64 (cm ts sc 5 nw)) := Lib.hid (fun x h => by rw [h])
  have nwb1 : (nw == (1 : Int)) = false := by simp; omega
  have nwb2 : (nw == (2 : Int)) = false := by simp; omega
  have nwb4 : (nw == (4 : Int)) = false := by simp; omega
  have nwb10 : (nw == (10 : Int)) = false := by simp; omega
  have nwb11 : (nw == (11 : Int)) = false := by simp; omega
  have nwb15 : (nw == (15 : Int)) = false := by simp; omega
  have nwb16 : (nw == (16 : Int)) = false := by simp; omega
  have nwb19 : (nw == (19 : Int)) = false := by simp; omega
  have nwb20 : (nw == (20 : Int)) = false := by simp; omega
  have HN := Lib.hid (hof nw false (by simp [hf]; omega))
  have HE := Lib.hid (hof 5 false (by decide))
  have HO := Lib.hid (hoisted nw false (by simp; omega))
  cases ts
  all_goals
    go_enter Try.func6, Try.ntmps6
    go_wp2_with (first | (go_at_call 7; with_reducible refine (HN.out _).mono ?_; rintro e w' ⟨rfl, rfl⟩) | (go_at_call 7; with_reducible refine (HE.out _).mono ?_; rintro e w' ⟨rfl, rfl⟩) | (go_at_call 8; with_reducible refine (HO.out _).mono ?_; rintro e w' ⟨rfl, rfl⟩))
    go_ret
    exact ⟨congrArg Ending.returned (hv.out _ (by simp [cm, n1, n2, n4, n10, n11, n15, n16, n19, n20])), rfl⟩
set_option linter.unusedSimpArgs false in
set_option maxRecDepth 100000 in
set_option maxHeartbeats 1000000 in
theorem cm_6_10 (b q : Nat) (ts : Bool) (sc : Int) (w : World) (c1 : w.cell? ⟨b, 32, none⟩ = some (.bool ts)) (c2 : w.cell? ⟨q, 15, none⟩ = some (.int .u8 sc)) :
    Calls Try.prog 6 #[.pointer (some ⟨b, 0, none⟩), .pointer (some ⟨q, 0, none⟩), .int .u8 6, .int .u8 10] w fun e w' => e = .returned (.int .i64 (cm ts sc 6 10)) ∧ w = w' := by
  have hv : Hid (∀ x : Int, x = cm ts sc 6 10 → Value.int .i64 x = .int .i64 (cm ts sc 6 10)) := Lib.hid (fun x h => by rw [h])
  have HN := Lib.hid (hof 10 false (by decide))
  have HE := Lib.hid (hof 6 false (by decide))
  have HO := Lib.hid (hoisted 10 false (by decide))
  cases ts
  all_goals
    go_enter Try.func6, Try.ntmps6
    go_wp2_with (first | (go_at_call 7; with_reducible refine (HN.out _).mono ?_; rintro e w' ⟨rfl, rfl⟩) | (go_at_call 7; with_reducible refine (HE.out _).mono ?_; rintro e w' ⟨rfl, rfl⟩) | (go_at_call 8; with_reducible refine (HO.out _).mono ?_; rintro e w' ⟨rfl, rfl⟩))
    go_ret
    exact ⟨congrArg Ending.returned (hv.out _ (by simp [cm])), rfl⟩
set_option linter.unusedSimpArgs false in
set_option maxRecDepth 100000 in
set_option maxHeartbeats 1000000 in
theorem cm_6_19 (b q : Nat) (ts : Bool) (sc : Int) (w : World) (c1 : w.cell? ⟨b, 32, none⟩ = some (.bool ts)) (c2 : w.cell? ⟨q, 15, none⟩ = some (.int .u8 sc)) :
    Calls Try.prog 6 #[.pointer (some ⟨b, 0, none⟩), .pointer (some ⟨q, 0, none⟩), .int .u8 6, .int .u8 19] w fun e w' => e = .returned (.int .i64 (cm ts sc 6 19)) ∧ w = w' := by
  have hv : Hid (∀ x : Int, x = cm ts sc 6 19 → Value.int .i64 x = .int .i64 (cm ts sc 6 19)) := Lib.hid (fun x h => by rw [h])
  have HN := Lib.hid (hof 19 false (by decide))
  have HE := Lib.hid (hof 6 false (by decide))
  have HO := Lib.hid (hoisted 19 false (by decide))
  cases ts
  all_goals
    go_enter Try.func6, Try.ntmps6
    go_wp2_with (first | (go_at_call 7; with_reducible refine (HN.out _).mono ?_; rintro e w' ⟨rfl, rfl⟩) | (go_at_call 7; with_reducible refine (HE.out _).mono ?_; rintro e w' ⟨rfl, rfl⟩) | (go_at_call 8; with_reducible refine (HO.out _).mono ?_; rintro e w' ⟨rfl, rfl⟩))
    go_ret
    exact ⟨congrArg Ending.returned (hv.out _ (by simp [cm])), rfl⟩
set_option linter.unusedSimpArgs false in
set_option maxRecDepth 100000 in
set_option maxHeartbeats 1000000 in
theorem cm_10_2 (b q : Nat) (ts : Bool) (sc : Int) (w : World) (c1 : w.cell? ⟨b, 32, none⟩ = some (.bool ts)) (c2 : w.cell? ⟨q, 15, none⟩ = some (.int .u8 sc)) :
    Calls Try.prog 6 #[.pointer (some ⟨b, 0, none⟩), .pointer (some ⟨q, 0, none⟩), .int .u8 10, .int .u8 2] w fun e w' => e = .returned (.int .i64 (cm ts sc 10 2)) ∧ w = w' := by
  have hv : Hid (∀ x : Int, x = cm ts sc 10 2 → Value.int .i64 x = .int .i64 (cm ts sc 10 2)) := Lib.hid (fun x h => by rw [h])
  have HN := Lib.hid (hof 2 true (by decide))
  have HE := Lib.hid (hof 10 false (by decide))
  have HO := Lib.hid (hoisted 2 true (by decide))
  cases ts
  all_goals
    go_enter Try.func6, Try.ntmps6
    go_wp2_with (first | (go_at_call 7; with_reducible refine (HN.out _).mono ?_; rintro e w' ⟨rfl, rfl⟩) | (go_at_call 7; with_reducible refine (HE.out _).mono ?_; rintro e w' ⟨rfl, rfl⟩) | (go_at_call 8; with_reducible refine (HO.out _).mono ?_; rintro e w' ⟨rfl, rfl⟩))
    go_ret
    exact ⟨congrArg Ending.returned (hv.out _ (by simp [cm])), rfl⟩
set_option linter.unusedSimpArgs false in
set_option maxRecDepth 100000 in
set_option maxHeartbeats 1000000 in
theorem cm_10_15 (b q : Nat) (ts : Bool) (sc : Int) (w : World) (c1 : w.cell? ⟨b, 32, none⟩ = some (.bool ts)) (c2 : w.cell? ⟨q, 15, none⟩ = some (.int .u8 sc)) :
    Calls Try.prog 6 #[.pointer (some ⟨b, 0, none⟩), .pointer (some ⟨q, 0, none⟩), .int .u8 10, .int .u8 15] w fun e w' => e = .returned (.int .i64 (cm ts sc 10 15)) ∧ w = w' := by
  have hv : Hid (∀ x : Int, x = cm ts sc 10 15 → Value.int .i64 x = .int .i64 (cm ts sc 10 15)) := Lib.hid (fun x h => by rw [h])
  have HN := Lib.hid (hof 15 false (by decide))
  have HE := Lib.hid (hof 10 false (by decide))
  have HO := Lib.hid (hoisted 15 false (by decide))
  cases ts
  all_goals
    go_enter Try.func6, Try.ntmps6
    go_wp2_with (first | (go_at_call 7; with_reducible refine (HN.out _).mono ?_; rintro e w' ⟨rfl, rfl⟩) | (go_at_call 7; with_reducible refine (HE.out _).mono ?_; rintro e w' ⟨rfl, rfl⟩) | (go_at_call 8; with_reducible refine (HO.out _).mono ?_; rintro e w' ⟨rfl, rfl⟩))
    go_ret
    exact ⟨congrArg Ending.returned (hv.out _ (by simp [cm])), rfl⟩
set_option linter.unusedSimpArgs false in
set_option maxRecDepth 100000 in
set_option maxHeartbeats 1000000 in
theorem cm_10_x (b q : Nat) (ts : Bool) (sc : Int) (nw : Int) (w : World) (c1 : w.cell? ⟨b, 32, none⟩ = some (.bool ts)) (c2 : w.cell? ⟨q, 15, none⟩ = some (.int .u8 sc)) (n1 : nw ≠ 1) (n2 : nw ≠ 2) (n4 : nw ≠ 4) (n10 : nw ≠ 10) (n11 : nw ≠ 11) (n15 : nw ≠ 15) (n16 : nw ≠ 16) (n19 : nw ≠ 19) (n20 : nw ≠ 20) :
    Calls Try.prog 6 #[.pointer (some ⟨b, 0, none⟩), .pointer (some ⟨q, 0, none⟩), .int .u8 10, .int .u8 nw] w fun e w' => e = .returned (.int .i64 (cm ts sc 10 nw)) ∧ w = w' := by
  have hv : Hid (∀ x : Int, x = cm ts sc 10 nw → Value.int .i64 x = .int .i64 (cm ts sc 10 nw)) := Lib.hid (fun x h => by rw [h])
  have nwb1 : (nw == (1 : Int)) = false := by simp; omega
  have nwb2 : (nw == (2 : Int)) = false := by simp; omega
  have nwb4 : (nw == (4 : Int)) = false := by simp; omega
  have nwb10 : (nw == (10 : Int)) = false := by simp; omega
  have nwb11 : (nw == (11 : Int)) = false := by simp; omega
  have nwb15 : (nw == (15 : Int)) = false := by simp; omega
  have nwb16 : (nw == (16 : Int)) = false := by simp; omega
  have nwb19 : (nw == (19 : Int)) = false := by simp; omega
  have nwb20 : (nw == (20 : Int)) = false := by simp; omega
  have HN := Lib.hid (hof nw false (by simp [hf]; omega))
  have HE := Lib.hid (hof 10 false (by decide))
  have HO := Lib.hid (hoisted nw false (by simp; omega))
  cases ts
  all_goals
    go_enter Try.func6, Try.ntmps6
    go_wp2_with (first | (go_at_call 7; with_reducible refine (HN.out _).mono ?_; rintro e w' ⟨rfl, rfl⟩) | (go_at_call 7; with_reducible refine (HE.out _).mono ?_; rintro e w' ⟨rfl, rfl⟩) | (go_at_call 8; with_reducible refine (HO.out _).mono ?_; rintro e w' ⟨rfl, rfl⟩))
    go_ret
    exact ⟨congrArg Ending.returned (hv.out _ (by simp [cm, n1, n2, n4, n10, n11, n15, n16, n19, n20])), rfl⟩
set_option linter.unusedSimpArgs false in
set_option maxRecDepth 100000 in
set_option maxHeartbeats 1000000 in
theorem cm_11_10 (b q : Nat) (ts : Bool) (sc : Int) (w : World) (c1 : w.cell? ⟨b, 32, none⟩ = some (.bool ts)) (c2 : w.cell? ⟨q, 15, none⟩ = some (.int .u8 sc)) :
    Calls Try.prog 6 #[.pointer (some ⟨b, 0, none⟩), .pointer (some ⟨q, 0, none⟩), .int .u8 11, .int .u8 10] w fun e w' => e = .returned (.int .i64 (cm ts sc 11 10)) ∧ w = w' := by
  have hv : Hid (∀ x : Int, x = cm ts sc 11 10 → Value.int .i64 x = .int .i64 (cm ts sc 11 10)) := Lib.hid (fun x h => by rw [h])
  have HN := Lib.hid (hof 10 false (by decide))
  have HE := Lib.hid (hof 11 false (by decide))
  have HO := Lib.hid (hoisted 10 false (by decide))
  cases ts
  all_goals
    go_enter Try.func6, Try.ntmps6
    go_wp2_with (first | (go_at_call 7; with_reducible refine (HN.out _).mono ?_; rintro e w' ⟨rfl, rfl⟩) | (go_at_call 7; with_reducible refine (HE.out _).mono ?_; rintro e w' ⟨rfl, rfl⟩) | (go_at_call 8; with_reducible refine (HO.out _).mono ?_; rintro e w' ⟨rfl, rfl⟩))
    go_ret
    exact ⟨congrArg Ending.returned (hv.out _ (by simp [cm])), rfl⟩
set_option linter.unusedSimpArgs false in
set_option maxRecDepth 100000 in
set_option maxHeartbeats 1000000 in
theorem cm_11_19 (b q : Nat) (ts : Bool) (sc : Int) (w : World) (c1 : w.cell? ⟨b, 32, none⟩ = some (.bool ts)) (c2 : w.cell? ⟨q, 15, none⟩ = some (.int .u8 sc)) :
    Calls Try.prog 6 #[.pointer (some ⟨b, 0, none⟩), .pointer (some ⟨q, 0, none⟩), .int .u8 11, .int .u8 19] w fun e w' => e = .returned (.int .i64 (cm ts sc 11 19)) ∧ w = w' := by
  have hv : Hid (∀ x : Int, x = cm ts sc 11 19 → Value.int .i64 x = .int .i64 (cm ts sc 11 19)) := Lib.hid (fun x h => by rw [h])
  have HN := Lib.hid (hof 19 false (by decide))
  have HE := Lib.hid (hof 11 false (by decide))
  have HO := Lib.hid (hoisted 19 false (by decide))
  cases ts
  all_goals
    go_enter Try.func6, Try.ntmps6
    go_wp2_with (first | (go_at_call 7; with_reducible refine (HN.out _).mono ?_; rintro e w' ⟨rfl, rfl⟩) | (go_at_call 7; with_reducible refine (HE.out _).mono ?_; rintro e w' ⟨rfl, rfl⟩) | (go_at_call 8; with_reducible refine (HO.out _).mono ?_; rintro e w' ⟨rfl, rfl⟩))
    go_ret
    exact ⟨congrArg Ending.returned (hv.out _ (by simp [cm])), rfl⟩
set_option linter.unusedSimpArgs false in
set_option maxRecDepth 100000 in
set_option maxHeartbeats 1000000 in
theorem cm_15_2 (b q : Nat) (ts : Bool) (sc : Int) (w : World) (c1 : w.cell? ⟨b, 32, none⟩ = some (.bool ts)) (c2 : w.cell? ⟨q, 15, none⟩ = some (.int .u8 sc)) :
    Calls Try.prog 6 #[.pointer (some ⟨b, 0, none⟩), .pointer (some ⟨q, 0, none⟩), .int .u8 15, .int .u8 2] w fun e w' => e = .returned (.int .i64 (cm ts sc 15 2)) ∧ w = w' := by
  have hv : Hid (∀ x : Int, x = cm ts sc 15 2 → Value.int .i64 x = .int .i64 (cm ts sc 15 2)) := Lib.hid (fun x h => by rw [h])
  have HN := Lib.hid (hof 2 true (by decide))
  have HE := Lib.hid (hof 15 false (by decide))
  have HO := Lib.hid (hoisted 2 true (by decide))
  cases ts
  all_goals
    go_enter Try.func6, Try.ntmps6
    go_wp2_with (first | (go_at_call 7; with_reducible refine (HN.out _).mono ?_; rintro e w' ⟨rfl, rfl⟩) | (go_at_call 7; with_reducible refine (HE.out _).mono ?_; rintro e w' ⟨rfl, rfl⟩) | (go_at_call 8; with_reducible refine (HO.out _).mono ?_; rintro e w' ⟨rfl, rfl⟩))
    go_ret
    exact ⟨congrArg Ending.returned (hv.out _ (by simp [cm])), rfl⟩
set_option linter.unusedSimpArgs false in
set_option maxRecDepth 100000 in
set_option maxHeartbeats 1000000 in
theorem cm_15_15 (b q : Nat) (ts : Bool) (sc : Int) (w : World) (c1 : w.cell? ⟨b, 32, none⟩ = some (.bool ts)) (c2 : w.cell? ⟨q, 15, none⟩ = some (.int .u8 sc)) :
    Calls Try.prog 6 #[.pointer (some ⟨b, 0, none⟩), .pointer (some ⟨q, 0, none⟩), .int .u8 15, .int .u8 15] w fun e w' => e = .returned (.int .i64 (cm ts sc 15 15)) ∧ w = w' := by
  have hv : Hid (∀ x : Int, x = cm ts sc 15 15 → Value.int .i64 x = .int .i64 (cm ts sc 15 15)) := Lib.hid (fun x h => by rw [h])
  have HN := Lib.hid (hof 15 false (by decide))
  have HE := Lib.hid (hof 15 false (by decide))
  have HO := Lib.hid (hoisted 15 false (by decide))
  cases ts
  all_goals
    go_enter Try.func6, Try.ntmps6
    go_wp2_with (first | (go_at_call 7; with_reducible refine (HN.out _).mono ?_; rintro e w' ⟨rfl, rfl⟩) | (go_at_call 7; with_reducible refine (HE.out _).mono ?_; rintro e w' ⟨rfl, rfl⟩) | (go_at_call 8; with_reducible refine (HO.out _).mono ?_; rintro e w' ⟨rfl, rfl⟩))
    go_ret
    exact ⟨congrArg Ending.returned (hv.out _ (by simp [cm])), rfl⟩
set_option linter.unusedSimpArgs false in
set_option maxRecDepth 100000 in
set_option maxHeartbeats 1000000 in
theorem cm_15_x (b q : Nat) (ts : Bool) (sc : Int) (nw : Int) (w : World) (c1 : w.cell? ⟨b, 32, none⟩ = some (.bool ts)) (c2 : w.cell? ⟨q, 15, none⟩ = some (.int .u8 sc)) (n1 : nw ≠ 1) (n2 : nw ≠ 2) (n4 : nw ≠ 4) (n10 : nw ≠ 10) (n11 : nw ≠ 11) (n15 : nw ≠ 15) (n16 : nw ≠ 16) (n19 : nw ≠ 19) (n20 : nw ≠ 20) :
    Calls Try.prog 6 #[.pointer (some ⟨b, 0, none⟩), .pointer (some ⟨q, 0, none⟩), .int .u8 15, .int .u8 nw] w fun e w' => e = .returned (.int .i64 (cm ts sc 15 nw)) ∧ w = w' := by
  have hv : Hid (∀ x : Int, x = cm ts sc 15 nw → Value.int .i64 x = .int .i64 (cm ts sc 15 nw)) := Lib.hid (fun x h => by rw [h])
  have nwb1 : (nw == (1 : Int)) = false := by simp; omega
  have nwb2 : (nw == (2 : Int)) = false := by simp; omega
  have nwb4 : (nw == (4 : Int)) = false := by simp; omega
  have nwb10 : (nw == (10 : Int)) = false := by simp; omega
  have nwb11 : (nw == (11 : Int)) = false := by simp; omega
  have nwb15 : (nw == (15 : Int)) = false := by simp; omega
  have nwb16 : (nw == (16 : Int)) = false := by simp; omega
  have nwb19 : (nw == (19 : Int)) = false := by simp; omega
  have nwb20 : (nw == (20 : Int)) = false := by simp; omega
  have HN := Lib.hid (hof nw false (by simp [hf]; omega))
  have HE := Lib.hid (hof 15 false (by decide))
  have HO := Lib.hid (hoisted nw false (by simp; omega))
  cases ts
  all_goals
    go_enter Try.func6, Try.ntmps6
    go_wp2_with (first | (go_at_call 7; with_reducible refine (HN.out _).mono ?_; rintro e w' ⟨rfl, rfl⟩) | (go_at_call 7; with_reducible refine (HE.out _).mono ?_; rintro e w' ⟨rfl, rfl⟩) | (go_at_call 8; with_reducible refine (HO.out _).mono ?_; rintro e w' ⟨rfl, rfl⟩))
    go_ret
    exact ⟨congrArg Ending.returned (hv.out _ (by simp [cm, n1, n2, n4, n10, n11, n15, n16, n19, n20])), rfl⟩
set_option linter.unusedSimpArgs false in
set_option maxRecDepth 100000 in
set_option maxHeartbeats 1000000 in
theorem cm_16_10 (b q : Nat) (ts : Bool) (sc : Int) (w : World) (c1 : w.cell? ⟨b, 32, none⟩ = some (.bool ts)) (c2 : w.cell? ⟨q, 15, none⟩ = some (.int .u8 sc)) :
    Calls Try.prog 6 #[.pointer (some ⟨b, 0, none⟩), .pointer (some ⟨q, 0, none⟩), .int .u8 16, .int .u8 10] w fun e w' => e = .returned (.int .i64 (cm ts sc 16 10)) ∧ w = w' := by
  have hv : Hid (∀ x : Int, x = cm ts sc 16 10 → Value.int .i64 x = .int .i64 (cm ts sc 16 10)) := Lib.hid (fun x h => by rw [h])
  have HN := Lib.hid (hof 10 false (by decide))
  have HE := Lib.hid (hof 16 false (by decide))
  have HO := Lib.hid (hoisted 10 false (by decide))
  cases ts
  all_goals
    go_enter Try.func6, Try.ntmps6
    go_wp2_with (first | (go_at_call 7; with_reducible refine (HN.out _).mono ?_; rintro e w' ⟨rfl, rfl⟩) | (go_at_call 7; with_reducible refine (HE.out _).mono ?_; rintro e w' ⟨rfl, rfl⟩) | (go_at_call 8; with_reducible refine (HO.out _).mono ?_; rintro e w' ⟨rfl, rfl⟩))
    go_ret
    exact ⟨congrArg Ending.returned (hv.out _ (by simp [cm])), rfl⟩
set_option linter.unusedSimpArgs false in
set_option maxRecDepth 100000 in
set_option maxHeartbeats 1000000 in
theorem cm_16_19 (b q : Nat) (ts : Bool) (sc : Int) (w : World) (c1 : w.cell? ⟨b, 32, none⟩ = some (.bool ts)) (c2 : w.cell? ⟨q, 15, none⟩ = some (.int .u8 sc)) :
    Calls Try.prog 6 #[.pointer (some ⟨b, 0, none⟩), .pointer (some ⟨q, 0, none⟩), .int .u8 16, .int .u8 19] w fun e w' => e = .returned (.int .i64 (cm ts sc 16 19)) ∧ w = w' := by
  have hv : Hid (∀ x : Int, x = cm ts sc 16 19 → Value.int .i64 x = .int .i64 (cm ts sc 16 19)) := Lib.hid (fun x h => by rw [h])
  have HN := Lib.hid (hof 19 false (by decide))
  have HE := Lib.hid (hof 16 false (by decide))
  have HO := Lib.hid (hoisted 19 false (by decide))
  cases ts
  all_goals
    go_enter Try.func6, Try.ntmps6
    go_wp2_with (first | (go_at_call 7; with_reducible refine (HN.out _).mono ?_; rintro e w' ⟨rfl, rfl⟩) | (go_at_call 7; with_reducible refine (HE.out _).mono ?_; rintro e w' ⟨rfl, rfl⟩) | (go_at_call 8; with_reducible refine (HO.out _).mono ?_; rintro e w' ⟨rfl, rfl⟩))
    go_ret
    exact ⟨congrArg Ending.returned (hv.out _ (by simp [cm])), rfl⟩
set_option linter.unusedSimpArgs false in
set_option maxRecDepth 100000 in
set_option maxHeartbeats 1000000 in
theorem cm_19_2 (b q : Nat) (ts : Bool) (sc : Int) (w : World) (c1 : w.cell? ⟨b, 32, none⟩ = some (.bool ts)) (c2 : w.cell? ⟨q, 15, none⟩ = some (.int .u8 sc)) :
    Calls Try.prog 6 #[.pointer (some ⟨b, 0, none⟩), .pointer (some ⟨q, 0, none⟩), .int .u8 19, .int .u8 2] w fun e w' => e = .returned (.int .i64 (cm ts sc 19 2)) ∧ w = w' := by
  have hv : Hid (∀ x : Int, x = cm ts sc 19 2 → Value.int .i64 x = .int .i64 (cm ts sc 19 2)) := Lib.hid (fun x h => by rw [h])
  have HN := Lib.hid (hof 2 true (by decide))
  have HE := Lib.hid (hof 19 false (by decide))
  have HO := Lib.hid (hoisted 2 true (by decide))
  cases ts
  all_goals
    go_enter Try.func6, Try.ntmps6
    go_wp2_with (first | (go_at_call 7; with_reducible refine (HN.out _).mono ?_; rintro e w' ⟨rfl, rfl⟩) | (go_at_call 7; with_reducible refine (HE.out _).mono ?_; rintro e w' ⟨rfl, rfl⟩) | (go_at_call 8; with_reducible refine (HO.out _).mono ?_; rintro e w' ⟨rfl, rfl⟩))
    go_ret
    exact ⟨congrArg Ending.returned (hv.out _ (by simp [cm])), rfl⟩
set_option linter.unusedSimpArgs false in
set_option maxRecDepth 100000 in
set_option maxHeartbeats 1000000 in
theorem cm_19_15 (b q : Nat) (ts : Bool) (sc : Int) (w : World) (c1 : w.cell? ⟨b, 32, none⟩ = some (.bool ts)) (c2 : w.cell? ⟨q, 15, none⟩ = some (.int .u8 sc)) :
    Calls Try.prog 6 #[.pointer (some ⟨b, 0, none⟩), .pointer (some ⟨q, 0, none⟩), .int .u8 19, .int .u8 15] w fun e w' => e = .returned (.int .i64 (cm ts sc 19 15)) ∧ w = w' := by
  have hv : Hid (∀ x : Int, x = cm ts sc 19 15 → Value.int .i64 x = .int .i64 (cm ts sc 19 15)) := Lib.hid (fun x h => by rw [h])
  have HN := Lib.hid (hof 15 false (by decide))
  have HE := Lib.hid (hof 19 false (by decide))
  have HO := Lib.hid (hoisted 15 false (by decide))
  cases ts
  all_goals
    go_enter Try.func6, Try.ntmps6
    go_wp2_with (first | (go_at_call 7; with_reducible refine (HN.out _).mono ?_; rintro e w' ⟨rfl, rfl⟩) | (go_at_call 7; with_reducible refine (HE.out _).mono ?_; rintro e w' ⟨rfl, rfl⟩) | (go_at_call 8; with_reducible refine (HO.out _).mono ?_; rintro e w' ⟨rfl, rfl⟩))
    go_ret
    exact ⟨congrArg Ending.returned (hv.out _ (by simp [cm])), rfl⟩
set_option linter.unusedSimpArgs false in
set_option maxRecDepth 100000 in
set_option maxHeartbeats 1000000 in
theorem cm_19_x (b q : Nat) (ts : Bool) (sc : Int) (nw : Int) (w : World) (c1 : w.cell? ⟨b, 32, none⟩ = some (.bool ts)) (c2 : w.cell? ⟨q, 15, none⟩ = some (.int .u8 sc)) (n1 : nw ≠ 1) (n2 : nw ≠ 2) (n4 : nw ≠ 4) (n10 : nw ≠ 10) (n11 : nw ≠ 11) (n15 : nw ≠ 15) (n16 : nw ≠ 16) (n19 : nw ≠ 19) (n20 : nw ≠ 20) :
    Calls Try.prog 6 #[.pointer (some ⟨b, 0, none⟩), .pointer (some ⟨q, 0, none⟩), .int .u8 19, .int .u8 nw] w fun e w' => e = .returned (.int .i64 (cm ts sc 19 nw)) ∧ w = w' := by
  have hv : Hid (∀ x : Int, x = cm ts sc 19 nw → Value.int .i64 x = .int .i64 (cm ts sc 19 nw)) := Lib.hid (fun x h => by rw [h])
  have nwb1 : (nw == (1 : Int)) = false := by simp; omega
  have nwb2 : (nw == (2 : Int)) = false := by simp; omega
  have nwb4 : (nw == (4 : Int)) = false := by simp; omega
  have nwb10 : (nw == (10 : Int)) = false := by simp; omega
  have nwb11 : (nw == (11 : Int)) = false := by simp; omega
  have nwb15 : (nw == (15 : Int)) = false := by simp; omega
  have nwb16 : (nw == (16 : Int)) = false := by simp; omega
  have nwb19 : (nw == (19 : Int)) = false := by simp; omega
  have nwb20 : (nw == (20 : Int)) = false := by simp; omega
  have HN := Lib.hid (hof nw false (by simp [hf]; omega))
  have HE := Lib.hid (hof 19 false (by decide))
  have HO := Lib.hid (hoisted nw false (by simp; omega))
  cases ts
  all_goals
    go_enter Try.func6, Try.ntmps6
    go_wp2_with (first | (go_at_call 7; with_reducible refine (HN.out _).mono ?_; rintro e w' ⟨rfl, rfl⟩) | (go_at_call 7; with_reducible refine (HE.out _).mono ?_; rintro e w' ⟨rfl, rfl⟩) | (go_at_call 8; with_reducible refine (HO.out _).mono ?_; rintro e w' ⟨rfl, rfl⟩))
    go_ret
    exact ⟨congrArg Ending.returned (hv.out _ (by simp [cm, n1, n2, n4, n10, n11, n15, n16, n19, n20])), rfl⟩
set_option linter.unusedSimpArgs false in
set_option maxRecDepth 100000 in
set_option maxHeartbeats 1000000 in
theorem cm_20_10 (b q : Nat) (ts : Bool) (sc : Int) (w : World) (c1 : w.cell? ⟨b, 32, none⟩ = some (.bool ts)) (c2 : w.cell? ⟨q, 15, none⟩ = some (.int .u8 sc)) :
    Calls Try.prog 6 #[.pointer (some ⟨b, 0, none⟩), .pointer (some ⟨q, 0, none⟩), .int .u8 20, .int .u8 10] w fun e w' => e = .returned (.int .i64 (cm ts sc 20 10)) ∧ w = w' := by
  have hv : Hid (∀ x : Int, x = cm ts sc 20 10 → Value.int .i64 x = .int .i64 (cm ts sc 20 10)) := Lib.hid (fun x h => by rw [h])
  have HN := Lib.hid (hof 10 false (by decide))
  have HE := Lib.hid (hof 20 false (by decide))
  have HO := Lib.hid (hoisted 10 false (by decide))
  cases ts
  all_goals
    go_enter Try.func6, Try.ntmps6
    go_wp2_with (first | (go_at_call 7; with_reducible refine (HN.out _).mono ?_; rintro e w' ⟨rfl, rfl⟩) | (go_at_call 7; with_reducible refine (HE.out _).mono ?_; rintro e w' ⟨rfl, rfl⟩) | (go_at_call 8; with_reducible refine (HO.out _).mono ?_; rintro e w' ⟨rfl, rfl⟩))
    go_ret
    exact ⟨congrArg Ending.returned (hv.out _ (by simp [cm])), rfl⟩
set_option linter.unusedSimpArgs false in
set_option maxRecDepth 100000 in
set_option maxHeartbeats 1000000 in
theorem cm_20_19 (b q : Nat) (ts : Bool) (sc : Int) (w : World) (c1 : w.cell? ⟨b, 32, none⟩ = some (.bool ts)) (c2 : w.cell? ⟨q, 15, none⟩ = some (.int .u8 sc)) :
    Calls Try.prog 6 #[.pointer (some ⟨b, 0, none⟩), .pointer (some ⟨q, 0, none⟩), .int .u8 20, .int .u8 19] w fun e w' => e = .returned (.int .i64 (cm ts sc 20 19)) ∧ w = w' := by
  have hv : Hid (∀ x : Int, x = cm ts sc 20 19 → Value.int .i64 x = .int .i64 (cm ts sc 20 19)) := Lib.hid (fun x h => by rw [h])
  have HN := Lib.hid (hof 19 false (by decide))
  have HE := Lib.hid (hof 20 false (by decide))
  have HO := Lib.hid (hoisted 19 false (by decide))
  cases ts
  all_goals
    go_enter Try.func6, Try.ntmps6
    go_wp2_with (first | (go_at_call 7; with_reducible refine (HN.out _).mono ?_; rintro e w' ⟨rfl, rfl⟩) | (go_at_call 7; with_reducible refine (HE.out _).mono ?_; rintro e w' ⟨rfl, rfl⟩) | (go_at_call 8; with_reducible refine (HO.out _).mono ?_; rintro e w' ⟨rfl, rfl⟩))
    go_ret
    exact ⟨congrArg Ending.returned (hv.out _ (by simp [cm])), rfl⟩
set_option linter.unusedSimpArgs false in
set_option maxRecDepth 100000 in
set_option maxHeartbeats 1000000 in
theorem cm_21_2 (b q : Nat) (ts : Bool) (sc : Int) (w : World) (c1 : w.cell? ⟨b, 32, none⟩ = some (.bool ts)) (c2 : w.cell? ⟨q, 15, none⟩ = some (.int .u8 sc)) :
    Calls Try.prog 6 #[.pointer (some ⟨b, 0, none⟩), .pointer (some ⟨q, 0, none⟩), .int .u8 21, .int .u8 2] w fun e w' => e = .returned (.int .i64 (cm ts sc 21 2)) ∧ w = w' := by
  have hv : Hid (∀ x : Int, x = cm ts sc 21 2 → Value.int .i64 x = .int .i64 (cm ts sc 21 2)) := Lib.hid (fun x h => by rw [h])
  have HN := Lib.hid (hof 2 true (by decide))
  have HE := Lib.hid (hof 21 false (by decide))
  have HO := Lib.hid (hoisted 2 true (by decide))
  cases ts
  all_goals
    go_enter Try.func6, Try.ntmps6
    go_wp2_with (first | (go_at_call 7; with_reducible refine (HN.out _).mono ?_; rintro e w' ⟨rfl, rfl⟩) | (go_at_call 7; with_reducible refine (HE.out _).mono ?_; rintro e w' ⟨rfl, rfl⟩) | (go_at_call 8; with_reducible refine (HO.out _).mono ?_; rintro e w' ⟨rfl, rfl⟩))
    go_ret
    exact ⟨congrArg Ending.returned (hv.out _ (by simp [cm])), rfl⟩
set_option linter.unusedSimpArgs false in
set_option maxRecDepth 100000 in
set_option maxHeartbeats 1000000 in
theorem cm_21_15 (b q : Nat) (ts : Bool) (sc : Int) (w : World) (c1 : w.cell? ⟨b, 32, none⟩ = some (.bool ts)) (c2 : w.cell? ⟨q, 15, none⟩ = some (.int .u8 sc)) :
    Calls Try.prog 6 #[.pointer (some ⟨b, 0, none⟩), .pointer (some ⟨q, 0, none⟩), .int .u8 21, .int .u8 15] w fun e w' => e = .returned (.int .i64 (cm ts sc 21 15)) ∧ w = w' := by
  have hv : Hid (∀ x : Int, x = cm ts sc 21 15 → Value.int .i64 x = .int .i64 (cm ts sc 21 15)) := Lib.hid (fun x h => by rw [h])
  have HN := Lib.hid (hof 15 false (by decide))
  have HE := Lib.hid (hof 21 false (by decide))
  have HO := Lib.hid (hoisted 15 false (by decide))
  cases ts
  all_goals
    go_enter Try.func6, Try.ntmps6
    go_wp2_with (first | (go_at_call 7; with_reducible refine (HN.out _).mono ?_; rintro e w' ⟨rfl, rfl⟩) | (go_at_call 7; with_reducible refine (HE.out _).mono ?_; rintro e w' ⟨rfl, rfl⟩) | (go_at_call 8; with_reducible refine (HO.out _).mono ?_; rintro e w' ⟨rfl, rfl⟩))
    go_ret
    exact ⟨congrArg Ending.returned (hv.out _ (by simp [cm])), rfl⟩
set_option linter.unusedSimpArgs false in
set_option maxRecDepth 100000 in
set_option maxHeartbeats 1000000 in
theorem cm_21_x (b q : Nat) (ts : Bool) (sc : Int) (nw : Int) (w : World) (c1 : w.cell? ⟨b, 32, none⟩ = some (.bool ts)) (c2 : w.cell? ⟨q, 15, none⟩ = some (.int .u8 sc)) (n1 : nw ≠ 1) (n2 : nw ≠ 2) (n4 : nw ≠ 4) (n10 : nw ≠ 10) (n11 : nw ≠ 11) (n15 : nw ≠ 15) (n16 : nw ≠ 16) (n19 : nw ≠ 19) (n20 : nw ≠ 20) :
    Calls Try.prog 6 #[.pointer (some ⟨b, 0, none⟩), .pointer (some ⟨q, 0, none⟩), .int .u8 21, .int .u8 nw] w fun e w' => e = .returned (.int .i64 (cm ts sc 21 nw)) ∧ w = w' := by
  have hv : Hid (∀ x : Int, x = cm ts sc 21 nw → Value.int .i64 x = .int .i64 (cm ts sc 21 nw)) := Lib.hid (fun x h => by rw [h])
  have nwb1 : (nw == (1 : Int)) = false := by simp; omega
  have nwb2 : (nw == (2 : Int)) = false := by simp; omega
  have nwb4 : (nw == (4 : Int)) = false := by simp; omega
  have nwb10 : (nw == (10 : Int)) = false := by simp; omega
  have nwb11 : (nw == (11 : Int)) = false := by simp; omega
  have nwb15 : (nw == (15 : Int)) = false := by simp; omega
  have nwb16 : (nw == (16 : Int)) = false := by simp; omega
  have nwb19 : (nw == (19 : Int)) = false := by simp; omega
  have nwb20 : (nw == (20 : Int)) = false := by simp; omega
  have HN := Lib.hid (hof nw false (by simp [hf]; omega))
  have HE := Lib.hid (hof 21 false (by decide))
  have HO := Lib.hid (hoisted nw false (by simp; omega))
  cases ts
  all_goals
    go_enter Try.func6, Try.ntmps6
    go_wp2_with (first | (go_at_call 7; with_reducible refine (HN.out _).mono ?_; rintro e w' ⟨rfl, rfl⟩) | (go_at_call 7; with_reducible refine (HE.out _).mono ?_; rintro e w' ⟨rfl, rfl⟩) | (go_at_call 8; with_reducible refine (HO.out _).mono ?_; rintro e w' ⟨rfl, rfl⟩))
    go_ret
    exact ⟨congrArg Ending.returned (hv.out _ (by simp [cm, n1, n2, n4, n10, n11, n15, n16, n19, n20])), rfl⟩
set_option linter.unusedSimpArgs false in
set_option maxRecDepth 100000 in
set_option maxHeartbeats 1000000 in
theorem cm_x_10 (b q : Nat) (ts : Bool) (sc : Int) (ex : Int) (w : World) (c1 : w.cell? ⟨b, 32, none⟩ = some (.bool ts)) (c2 : w.cell? ⟨q, 15, none⟩ = some (.int .u8 sc)) (e0 : ex ≠ 0) (e1 : ex ≠ 1) (e2 : ex ≠ 2) (e3 : ex ≠ 3) (e4 : ex ≠ 4) (e5 : ex ≠ 5) (e6 : ex ≠ 6) (e10 : ex ≠ 10) (e11 : ex ≠ 11) (e15 : ex ≠ 15) (e16 : ex ≠ 16) (e19 : ex ≠ 19) (e20 : ex ≠ 20) (e21 : ex ≠ 21) :
    Calls Try.prog 6 #[.pointer (some ⟨b, 0, none⟩), .pointer (some ⟨q, 0, none⟩), .int .u8 ex, .int .u8 10] w fun e w' => e = .returned (.int .i64 (cm ts sc ex 10)) ∧ w = w' := by
  have hv : Hid (∀ x : Int, x = cm ts sc ex 10 → Value.int .i64 x = .int .i64 (cm ts sc ex 10)) := Lib.hid (fun x h => by rw [h])
  have exb0 : (ex == (0 : Int)) = false := by simp; omega
  have exb1 : (ex == (1 : Int)) = false := by simp; omega
  have exb2 : (ex == (2 : Int)) = false := by simp; omega
  have exb3 : (ex == (3 : Int)) = false := by simp; omega
  have exb4 : (ex == (4 : Int)) = false := by simp; omega
  have exb5 : (ex == (5 : Int)) = false := by simp; omega
  have exb6 : (ex == (6 : Int)) = false := by simp; omega
  have exb10 : (ex == (10 : Int)) = false := by simp; omega
  have exb11 : (ex == (11 : Int)) = false := by simp; omega
  have exb15 : (ex == (15 : Int)) = false := by simp; omega
  have exb16 : (ex == (16 : Int)) = false := by simp; omega
  have exb19 : (ex == (19 : Int)) = false := by simp; omega
  have exb20 : (ex == (20 : Int)) = false := by simp; omega
  have exb21 : (ex == (21 : Int)) = false := by simp; omega
  have HN := Lib.hid (hof 10 false (by decide))
  have HE := Lib.hid (hof ex false (by simp [hf]; omega))
  have HO := Lib.hid (hoisted 10 false (by decide))
  cases ts
  all_goals
    go_enter Try.func6, Try.ntmps6
    go_wp2_with (first | (go_at_call 7; with_reducible refine (HN.out _).mono ?_; rintro e w' ⟨rfl, rfl⟩) | (go_at_call 7; with_reducible refine (HE.out _).mono ?_; rintro e w' ⟨rfl, rfl⟩) | (go_at_call 8; with_reducible refine (HO.out _).mono ?_; rintro e w' ⟨rfl, rfl⟩))
    go_ret
    exact ⟨congrArg Ending.returned (hv.out _ (by simp [cm, e0, e1, e2, e3, e4, e5, e6, e10, e11, e15, e16, e19, e20, e21])), rfl⟩
set_option linter.unusedSimpArgs false in
set_option maxRecDepth 100000 in
set_option maxHeartbeats 1000000 in
theorem cm_x_19 (b q : Nat) (ts : Bool) (sc : Int) (ex : Int) (w : World) (c1 : w.cell? ⟨b, 32, none⟩ = some (.bool ts)) (c2 : w.cell? ⟨q, 15, none⟩ = some (.int .u8 sc)) (e0 : ex ≠ 0) (e1 : ex ≠ 1) (e2 : ex ≠ 2) (e3 : ex ≠ 3) (e4 : ex ≠ 4) (e5 : ex ≠ 5) (e6 : ex ≠ 6) (e10 : ex ≠ 10) (e11 : ex ≠ 11) (e15 : ex ≠ 15) (e16 : ex ≠ 16) (e19 : ex ≠ 19) (e20 : ex ≠ 20) (e21 : ex ≠ 21) :
    Calls Try.prog 6 #[.pointer (some ⟨b, 0, none⟩), .pointer (some ⟨q, 0, none⟩), .int .u8 ex, .int .u8 19] w fun e w' => e = .returned (.int .i64 (cm ts sc ex 19)) ∧ w = w' := by
  have hv : Hid (∀ x : Int, x = cm ts sc ex 19 → Value.int .i64 x = .int .i64 (cm ts sc ex 19)) := Lib.hid (fun x h => by rw [h])
  have exb0 : (ex == (0 : Int)) = false := by simp; omega
  have exb1 : (ex == (1 : Int)) = false := by simp; omega
  have exb2 : (ex == (2 : Int)) = false := by simp; omega
  have exb3 : (ex == (3 : Int)) = false := by simp; omega
  have exb4 : (ex == (4 : Int)) = false := by simp; omega
  have exb5 : (ex == (5 : Int)) = false := by simp; omega
  have exb6 : (ex == (6 : Int)) = false := by simp; omega
  have exb10 : (ex == (10 : Int)) = false := by simp; omega
  have exb11 : (ex == (11 : Int)) = false := by simp; omega
  have exb15 : (ex == (15 : Int)) = false := by simp; omega
  have exb16 : (ex == (16 : Int)) = false := by simp; omega
  have exb19 : (ex == (19 : Int)) = false := by simp; omega
  have exb20 : (ex == (20 : Int)) = false := by simp; omega
  have exb21 : (ex == (21 : Int)) = false := by simp; omega
  have HN := Lib.hid (hof 19 false (by decide))
  have HE := Lib.hid (hof ex false (by simp [hf]; omega))
  have HO := Lib.hid (hoisted 19 false (by decide))
  cases ts
  all_goals
    go_enter Try.func6, Try.ntmps6
    go_wp2_with (first | (go_at_call 7; with_reducible refine (HN.out _).mono ?_; rintro e w' ⟨rfl, rfl⟩) | (go_at_call 7; with_reducible refine (HE.out _).mono ?_; rintro e w' ⟨rfl, rfl⟩) | (go_at_call 8; with_reducible refine (HO.out _).mono ?_; rintro e w' ⟨rfl, rfl⟩))
    go_ret
    exact ⟨congrArg Ending.returned (hv.out _ (by simp [cm, e0, e1, e2, e3, e4, e5, e6, e10, e11, e15, e16, e19, e20, e21])), rfl⟩
end Go.Proofs.Ytnemldibhdphoaa.cms
