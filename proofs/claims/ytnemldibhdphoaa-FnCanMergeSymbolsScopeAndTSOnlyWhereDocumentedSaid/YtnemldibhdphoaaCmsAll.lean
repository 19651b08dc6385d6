/-
  The contract of canMergeSymbols, out of its walks.
-/
import Derived.Test.YtnemldibhdphoaaCms0
import Derived.Test.YtnemldibhdphoaaCms1
import Derived.Test.YtnemldibhdphoaaCms2
import Derived.Test.YtnemldibhdphoaaCms3
namespace Go.Proofs.Ytnemldibhdphoaa.cms
open Go.ChangeShapes Go.WideShapes Go.ChangeAt Go.RowKit
set_option linter.unusedVariables false

theorem cme_0 (b q : Nat) (ts : Bool) (sc nw : Int) (w : World) (c1 : w.cell? ⟨b, 32, none⟩ = some (.bool ts)) (c2 : w.cell? ⟨q, 15, none⟩ = some (.int .u8 sc)) :
    Calls Try.prog 6 #[.pointer (some ⟨b, 0, none⟩), .pointer (some ⟨q, 0, none⟩), .int .u8 0, .int .u8 nw] w fun e w' => e = .returned (.int .i64 (cm ts sc 0 nw)) ∧ w = w' := by
  by_cases n1 : nw = 1
  · subst n1
    exact cm_0_1 b q ts sc w c1 c2
  by_cases n2 : nw = 2
  · subst n2
    exact cm_0_2 b q ts sc w c1 c2
  by_cases n4 : nw = 4
  · subst n4
    exact cm_0_4 b q ts sc w c1 c2
  by_cases n10 : nw = 10
  · subst n10
    exact cm_0_10 b q ts sc w c1 c2
  by_cases n11 : nw = 11
  · subst n11
    exact cm_0_11 b q ts sc w c1 c2
  by_cases n15 : nw = 15
  · subst n15
    exact cm_0_15 b q ts sc w c1 c2
  by_cases n16 : nw = 16
  · subst n16
    exact cm_0_16 b q ts sc w c1 c2
  by_cases n19 : nw = 19
  · subst n19
    exact cm_0_19 b q ts sc w c1 c2
  by_cases n20 : nw = 20
  · subst n20
    exact cm_0_20 b q ts sc w c1 c2
  exact cm_0_x b q ts sc nw w c1 c2 n1 n2 n4 n10 n11 n15 n16 n19 n20
theorem cme_1 (b q : Nat) (ts : Bool) (sc nw : Int) (w : World) (c1 : w.cell? ⟨b, 32, none⟩ = some (.bool ts)) (c2 : w.cell? ⟨q, 15, none⟩ = some (.int .u8 sc)) :
    Calls Try.prog 6 #[.pointer (some ⟨b, 0, none⟩), .pointer (some ⟨q, 0, none⟩), .int .u8 1, .int .u8 nw] w fun e w' => e = .returned (.int .i64 (cm ts sc 1 nw)) ∧ w = w' := by
  by_cases n1 : nw = 1
  · subst n1
    by_cases s6 : sc = 6
    · subst s6; exact cm_1_1_6 b q ts w c1 c2
    by_cases s8 : sc = 8
    · subst s8; exact cm_1_1_8 b q ts w c1 c2
    by_cases s7 : sc = 7
    · subst s7; exact cm_1_1_7 b q ts w c1 c2
    exact cm_1_1_x b q ts sc w c1 c2 s6 s8 s7
  by_cases n2 : nw = 2
  · subst n2
    by_cases s6 : sc = 6
    · subst s6; exact cm_1_2_6 b q ts w c1 c2
    by_cases s8 : sc = 8
    · subst s8; exact cm_1_2_8 b q ts w c1 c2
    by_cases s7 : sc = 7
    · subst s7; exact cm_1_2_7 b q ts w c1 c2
    exact cm_1_2_x b q ts sc w c1 c2 s6 s8 s7
  by_cases n4 : nw = 4
  · subst n4
    by_cases s6 : sc = 6
    · subst s6; exact cm_1_4_6 b q ts w c1 c2
    by_cases s8 : sc = 8
    · subst s8; exact cm_1_4_8 b q ts w c1 c2
    by_cases s7 : sc = 7
    · subst s7; exact cm_1_4_7 b q ts w c1 c2
    exact cm_1_4_x b q ts sc w c1 c2 s6 s8 s7
  by_cases n10 : nw = 10
  · subst n10
    exact cm_1_10 b q ts sc w c1 c2
  by_cases n11 : nw = 11
  · subst n11
    exact cm_1_11 b q ts sc w c1 c2
  by_cases n15 : nw = 15
  · subst n15
    exact cm_1_15 b q ts sc w c1 c2
  by_cases n16 : nw = 16
  · subst n16
    exact cm_1_16 b q ts sc w c1 c2
  by_cases n19 : nw = 19
  · subst n19
    exact cm_1_19 b q ts sc w c1 c2
  by_cases n20 : nw = 20
  · subst n20
    exact cm_1_20 b q ts sc w c1 c2
  exact cm_1_x b q ts sc nw w c1 c2 n1 n2 n4 n10 n11 n15 n16 n19 n20
theorem cme_2 (b q : Nat) (ts : Bool) (sc nw : Int) (w : World) (c1 : w.cell? ⟨b, 32, none⟩ = some (.bool ts)) (c2 : w.cell? ⟨q, 15, none⟩ = some (.int .u8 sc)) :
    Calls Try.prog 6 #[.pointer (some ⟨b, 0, none⟩), .pointer (some ⟨q, 0, none⟩), .int .u8 2, .int .u8 nw] w fun e w' => e = .returned (.int .i64 (cm ts sc 2 nw)) ∧ w = w' := by
  by_cases n1 : nw = 1
  · subst n1
    by_cases s6 : sc = 6
    · subst s6; exact cm_2_1_6 b q ts w c1 c2
    by_cases s8 : sc = 8
    · subst s8; exact cm_2_1_8 b q ts w c1 c2
    by_cases s7 : sc = 7
    · subst s7; exact cm_2_1_7 b q ts w c1 c2
    exact cm_2_1_x b q ts sc w c1 c2 s6 s8 s7
  by_cases n2 : nw = 2
  · subst n2
    by_cases s6 : sc = 6
    · subst s6; exact cm_2_2_6 b q ts w c1 c2
    by_cases s8 : sc = 8
    · subst s8; exact cm_2_2_8 b q ts w c1 c2
    by_cases s7 : sc = 7
    · subst s7; exact cm_2_2_7 b q ts w c1 c2
    exact cm_2_2_x b q ts sc w c1 c2 s6 s8 s7
  by_cases n4 : nw = 4
  · subst n4
    by_cases s6 : sc = 6
    · subst s6; exact cm_2_4_6 b q ts w c1 c2
    by_cases s8 : sc = 8
    · subst s8; exact cm_2_4_8 b q ts w c1 c2
    by_cases s7 : sc = 7
    · subst s7; exact cm_2_4_7 b q ts w c1 c2
    exact cm_2_4_x b q ts sc w c1 c2 s6 s8 s7
  by_cases n10 : nw = 10
  · subst n10
    exact cm_2_10 b q ts sc w c1 c2
  by_cases n11 : nw = 11
  · subst n11
    exact cm_2_11 b q ts sc w c1 c2
  by_cases n15 : nw = 15
  · subst n15
    exact cm_2_15 b q ts sc w c1 c2
  by_cases n16 : nw = 16
  · subst n16
    exact cm_2_16 b q ts sc w c1 c2
  by_cases n19 : nw = 19
  · subst n19
    exact cm_2_19 b q ts sc w c1 c2
  by_cases n20 : nw = 20
  · subst n20
    exact cm_2_20 b q ts sc w c1 c2
  exact cm_2_x b q ts sc nw w c1 c2 n1 n2 n4 n10 n11 n15 n16 n19 n20
theorem cme_3 (b q : Nat) (ts : Bool) (sc nw : Int) (w : World) (c1 : w.cell? ⟨b, 32, none⟩ = some (.bool ts)) (c2 : w.cell? ⟨q, 15, none⟩ = some (.int .u8 sc)) :
    Calls Try.prog 6 #[.pointer (some ⟨b, 0, none⟩), .pointer (some ⟨q, 0, none⟩), .int .u8 3, .int .u8 nw] w fun e w' => e = .returned (.int .i64 (cm ts sc 3 nw)) ∧ w = w' := by
  by_cases n1 : nw = 1
  · subst n1
    exact cm_3_1 b q ts sc w c1 c2
  by_cases n2 : nw = 2
  · subst n2
    exact cm_3_2 b q ts sc w c1 c2
  by_cases n4 : nw = 4
  · subst n4
    exact cm_3_4 b q ts sc w c1 c2
  by_cases n10 : nw = 10
  · subst n10
    exact cm_3_10 b q ts sc w c1 c2
  by_cases n11 : nw = 11
  · subst n11
    exact cm_3_11 b q ts sc w c1 c2
  by_cases n15 : nw = 15
  · subst n15
    exact cm_3_15 b q ts sc w c1 c2
  by_cases n16 : nw = 16
  · subst n16
    exact cm_3_16 b q ts sc w c1 c2
  by_cases n19 : nw = 19
  · subst n19
    exact cm_3_19 b q ts sc w c1 c2
  by_cases n20 : nw = 20
  · subst n20
    exact cm_3_20 b q ts sc w c1 c2
  exact cm_3_x b q ts sc nw w c1 c2 n1 n2 n4 n10 n11 n15 n16 n19 n20
theorem cme_4 (b q : Nat) (ts : Bool) (sc nw : Int) (w : World) (c1 : w.cell? ⟨b, 32, none⟩ = some (.bool ts)) (c2 : w.cell? ⟨q, 15, none⟩ = some (.int .u8 sc)) :
    Calls Try.prog 6 #[.pointer (some ⟨b, 0, none⟩), .pointer (some ⟨q, 0, none⟩), .int .u8 4, .int .u8 nw] w fun e w' => e = .returned (.int .i64 (cm ts sc 4 nw)) ∧ w = w' := by
  by_cases n1 : nw = 1
  · subst n1
    by_cases s6 : sc = 6
    · subst s6; exact cm_4_1_6 b q ts w c1 c2
    by_cases s8 : sc = 8
    · subst s8; exact cm_4_1_8 b q ts w c1 c2
    by_cases s7 : sc = 7
    · subst s7; exact cm_4_1_7 b q ts w c1 c2
    exact cm_4_1_x b q ts sc w c1 c2 s6 s8 s7
  by_cases n2 : nw = 2
  · subst n2
    by_cases s6 : sc = 6
    · subst s6; exact cm_4_2_6 b q ts w c1 c2
    by_cases s8 : sc = 8
    · subst s8; exact cm_4_2_8 b q ts w c1 c2
    by_cases s7 : sc = 7
    · subst s7; exact cm_4_2_7 b q ts w c1 c2
    exact cm_4_2_x b q ts sc w c1 c2 s6 s8 s7
  by_cases n4 : nw = 4
  · subst n4
    by_cases s6 : sc = 6
    · subst s6; exact cm_4_4_6 b q ts w c1 c2
    by_cases s8 : sc = 8
    · subst s8; exact cm_4_4_8 b q ts w c1 c2
    by_cases s7 : sc = 7
    · subst s7; exact cm_4_4_7 b q ts w c1 c2
    exact cm_4_4_x b q ts sc w c1 c2 s6 s8 s7
  by_cases n10 : nw = 10
  · subst n10
    exact cm_4_10 b q ts sc w c1 c2
  by_cases n11 : nw = 11
  · subst n11
    exact cm_4_11 b q ts sc w c1 c2
  by_cases n15 : nw = 15
  · subst n15
    exact cm_4_15 b q ts sc w c1 c2
  by_cases n16 : nw = 16
  · subst n16
    exact cm_4_16 b q ts sc w c1 c2
  by_cases n19 : nw = 19
  · subst n19
    exact cm_4_19 b q ts sc w c1 c2
  by_cases n20 : nw = 20
  · subst n20
    exact cm_4_20 b q ts sc w c1 c2
  exact cm_4_x b q ts sc nw w c1 c2 n1 n2 n4 n10 n11 n15 n16 n19 n20
theorem cme_5 (b q : Nat) (ts : Bool) (sc nw : Int) (w : World) (c1 : w.cell? ⟨b, 32, none⟩ = some (.bool ts)) (c2 : w.cell? ⟨q, 15, none⟩ = some (.int .u8 sc)) :
    Calls Try.prog 6 #[.pointer (some ⟨b, 0, none⟩), .pointer (some ⟨q, 0, none⟩), .int .u8 5, .int .u8 nw] w fun e w' => e = .returned (.int .i64 (cm ts sc 5 nw)) ∧ w = w' := by
  by_cases n1 : nw = 1
  · subst n1
    exact cm_5_1 b q ts sc w c1 c2
  by_cases n2 : nw = 2
  · subst n2
    exact cm_5_2 b q ts sc w c1 c2
  by_cases n4 : nw = 4
  · subst n4
    exact cm_5_4 b q ts sc w c1 c2
  by_cases n10 : nw = 10
  · subst n10
    exact cm_5_10 b q ts sc w c1 c2
  by_cases n11 : nw = 11
  · subst n11
    exact cm_5_11 b q ts sc w c1 c2
  by_cases n15 : nw = 15
  · subst n15
    exact cm_5_15 b q ts sc w c1 c2
  by_cases n16 : nw = 16
  · subst n16
    exact cm_5_16 b q ts sc w c1 c2
  by_cases n19 : nw = 19
  · subst n19
    exact cm_5_19 b q ts sc w c1 c2
  by_cases n20 : nw = 20
  · subst n20
    exact cm_5_20 b q ts sc w c1 c2
  exact cm_5_x b q ts sc nw w c1 c2 n1 n2 n4 n10 n11 n15 n16 n19 n20
theorem cme_6 (b q : Nat) (ts : Bool) (sc nw : Int) (w : World) (c1 : w.cell? ⟨b, 32, none⟩ = some (.bool ts)) (c2 : w.cell? ⟨q, 15, none⟩ = some (.int .u8 sc)) :
    Calls Try.prog 6 #[.pointer (some ⟨b, 0, none⟩), .pointer (some ⟨q, 0, none⟩), .int .u8 6, .int .u8 nw] w fun e w' => e = .returned (.int .i64 (cm ts sc 6 nw)) ∧ w = w' := by
  by_cases n1 : nw = 1
  · subst n1
    exact cm_6_1 b q ts sc w c1 c2
  by_cases n2 : nw = 2
  · subst n2
    exact cm_6_2 b q ts sc w c1 c2
  by_cases n4 : nw = 4
  · subst n4
    exact cm_6_4 b q ts sc w c1 c2
  by_cases n10 : nw = 10
  · subst n10
    exact cm_6_10 b q ts sc w c1 c2
  by_cases n11 : nw = 11
  · subst n11
    exact cm_6_11 b q ts sc w c1 c2
  by_cases n15 : nw = 15
  · subst n15
    exact cm_6_15 b q ts sc w c1 c2
  by_cases n16 : nw = 16
  · subst n16
    exact cm_6_16 b q ts sc w c1 c2
  by_cases n19 : nw = 19
  · subst n19
    exact cm_6_19 b q ts sc w c1 c2
  by_cases n20 : nw = 20
  · subst n20
    exact cm_6_20 b q ts sc w c1 c2
  exact cm_6_x b q ts sc nw w c1 c2 n1 n2 n4 n10 n11 n15 n16 n19 n20
theorem cme_10 (b q : Nat) (ts : Bool) (sc nw : Int) (w : World) (c1 : w.cell? ⟨b, 32, none⟩ = some (.bool ts)) (c2 : w.cell? ⟨q, 15, none⟩ = some (.int .u8 sc)) :
    Calls Try.prog 6 #[.pointer (some ⟨b, 0, none⟩), .pointer (some ⟨q, 0, none⟩), .int .u8 10, .int .u8 nw] w fun e w' => e = .returned (.int .i64 (cm ts sc 10 nw)) ∧ w = w' := by
  by_cases n1 : nw = 1
  · subst n1
    exact cm_10_1 b q ts sc w c1 c2
  by_cases n2 : nw = 2
  · subst n2
    exact cm_10_2 b q ts sc w c1 c2
  by_cases n4 : nw = 4
  · subst n4
    exact cm_10_4 b q ts sc w c1 c2
  by_cases n10 : nw = 10
  · subst n10
    exact cm_10_10 b q ts sc w c1 c2
  by_cases n11 : nw = 11
  · subst n11
    exact cm_10_11 b q ts sc w c1 c2
  by_cases n15 : nw = 15
  · subst n15
    exact cm_10_15 b q ts sc w c1 c2
  by_cases n16 : nw = 16
  · subst n16
    exact cm_10_16 b q ts sc w c1 c2
  by_cases n19 : nw = 19
  · subst n19
    exact cm_10_19 b q ts sc w c1 c2
  by_cases n20 : nw = 20
  · subst n20
    exact cm_10_20 b q ts sc w c1 c2
  exact cm_10_x b q ts sc nw w c1 c2 n1 n2 n4 n10 n11 n15 n16 n19 n20
theorem cme_11 (b q : Nat) (ts : Bool) (sc nw : Int) (w : World) (c1 : w.cell? ⟨b, 32, none⟩ = some (.bool ts)) (c2 : w.cell? ⟨q, 15, none⟩ = some (.int .u8 sc)) :
    Calls Try.prog 6 #[.pointer (some ⟨b, 0, none⟩), .pointer (some ⟨q, 0, none⟩), .int .u8 11, .int .u8 nw] w fun e w' => e = .returned (.int .i64 (cm ts sc 11 nw)) ∧ w = w' := by
  by_cases n1 : nw = 1
  · subst n1
    exact cm_11_1 b q ts sc w c1 c2
  by_cases n2 : nw = 2
  · subst n2
    exact cm_11_2 b q ts sc w c1 c2
  by_cases n4 : nw = 4
  · subst n4
    exact cm_11_4 b q ts sc w c1 c2
  by_cases n10 : nw = 10
  · subst n10
    exact cm_11_10 b q ts sc w c1 c2
  by_cases n11 : nw = 11
  · subst n11
    exact cm_11_11 b q ts sc w c1 c2
  by_cases n15 : nw = 15
  · subst n15
    exact cm_11_15 b q ts sc w c1 c2
  by_cases n16 : nw = 16
  · subst n16
    exact cm_11_16 b q ts sc w c1 c2
  by_cases n19 : nw = 19
  · subst n19
    exact cm_11_19 b q ts sc w c1 c2
  by_cases n20 : nw = 20
  · subst n20
    exact cm_11_20 b q ts sc w c1 c2
  exact cm_11_x b q ts sc nw w c1 c2 n1 n2 n4 n10 n11 n15 n16 n19 n20
theorem cme_15 (b q : Nat) (ts : Bool) (sc nw : Int) (w : World) (c1 : w.cell? ⟨b, 32, none⟩ = some (.bool ts)) (c2 : w.cell? ⟨q, 15, none⟩ = some (.int .u8 sc)) :
    Calls Try.prog 6 #[.pointer (some ⟨b, 0, none⟩), .pointer (some ⟨q, 0, none⟩), .int .u8 15, .int .u8 nw] w fun e w' => e = .returned (.int .i64 (cm ts sc 15 nw)) ∧ w = w' := by
  by_cases n1 : nw = 1
  · subst n1
    exact cm_15_1 b q ts sc w c1 c2
  by_cases n2 : nw = 2
  · subst n2
    exact cm_15_2 b q ts sc w c1 c2
  by_cases n4 : nw = 4
  · subst n4
    exact cm_15_4 b q ts sc w c1 c2
  by_cases n10 : nw = 10
  · subst n10
    exact cm_15_10 b q ts sc w c1 c2
  by_cases n11 : nw = 11
  · subst n11
    exact cm_15_11 b q ts sc w c1 c2
  by_cases n15 : nw = 15
  · subst n15
    exact cm_15_15 b q ts sc w c1 c2
  by_cases n16 : nw = 16
  · subst n16
    exact cm_15_16 b q ts sc w c1 c2
  by_cases n19 : nw = 19
  · subst n19
    exact cm_15_19 b q ts sc w c1 c2
  by_cases n20 : nw = 20
  · subst n20
    exact cm_15_20 b q ts sc w c1 c2
  exact cm_15_x b q ts sc nw w c1 c2 n1 n2 n4 n10 n11 n15 n16 n19 n20
theorem cme_16 (b q : Nat) (ts : Bool) (sc nw : Int) (w : World) (c1 : w.cell? ⟨b, 32, none⟩ = some (.bool ts)) (c2 : w.cell? ⟨q, 15, none⟩ = some (.int .u8 sc)) :
    Calls Try.prog 6 #[.pointer (some ⟨b, 0, none⟩), .pointer (some ⟨q, 0, none⟩), .int .u8 16, .int .u8 nw] w fun e w' => e = .returned (.int .i64 (cm ts sc 16 nw)) ∧ w = w' := by
  by_cases n1 : nw = 1
  · subst n1
    exact cm_16_1 b q ts sc w c1 c2
  by_cases n2 : nw = 2
  · subst n2
    exact cm_16_2 b q ts sc w c1 c2
  by_cases n4 : nw = 4
  · subst n4
    exact cm_16_4 b q ts sc w c1 c2
  by_cases n10 : nw = 10
  · subst n10
    exact cm_16_10 b q ts sc w c1 c2
  by_cases n11 : nw = 11
  · subst n11
    exact cm_16_11 b q ts sc w c1 c2
  by_cases n15 : nw = 15
  · subst n15
    exact cm_16_15 b q ts sc w c1 c2
  by_cases n16 : nw = 16
  · subst n16
    exact cm_16_16 b q ts sc w c1 c2
  by_cases n19 : nw = 19
  · subst n19
    exact cm_16_19 b q ts sc w c1 c2
  by_cases n20 : nw = 20
  · subst n20
    exact cm_16_20 b q ts sc w c1 c2
  exact cm_16_x b q ts sc nw w c1 c2 n1 n2 n4 n10 n11 n15 n16 n19 n20
theorem cme_19 (b q : Nat) (ts : Bool) (sc nw : Int) (w : World) (c1 : w.cell? ⟨b, 32, none⟩ = some (.bool ts)) (c2 : w.cell? ⟨q, 15, none⟩ = some (.int .u8 sc)) :
    Calls Try.prog 6 #[.pointer (some ⟨b, 0, none⟩), .pointer (some ⟨q, 0, none⟩), .int .u8 19, .int .u8 nw] w fun e w' => e = .returned (.int .i64 (cm ts sc 19 nw)) ∧ w = w' := by
  by_cases n1 : nw = 1
  · subst n1
    exact cm_19_1 b q ts sc w c1 c2
  by_cases n2 : nw = 2
  · subst n2
    exact cm_19_2 b q ts sc w c1 c2
  by_cases n4 : nw = 4
  · subst n4
    exact cm_19_4 b q ts sc w c1 c2
  by_cases n10 : nw = 10
  · subst n10
    exact cm_19_10 b q ts sc w c1 c2
  by_cases n11 : nw = 11
  · subst n11
    exact cm_19_11 b q ts sc w c1 c2
  by_cases n15 : nw = 15
  · subst n15
    exact cm_19_15 b q ts sc w c1 c2
  by_cases n16 : nw = 16
  · subst n16
    exact cm_19_16 b q ts sc w c1 c2
  by_cases n19 : nw = 19
  · subst n19
    exact cm_19_19 b q ts sc w c1 c2
  by_cases n20 : nw = 20
  · subst n20
    exact cm_19_20 b q ts sc w c1 c2
  exact cm_19_x b q ts sc nw w c1 c2 n1 n2 n4 n10 n11 n15 n16 n19 n20
theorem cme_20 (b q : Nat) (ts : Bool) (sc nw : Int) (w : World) (c1 : w.cell? ⟨b, 32, none⟩ = some (.bool ts)) (c2 : w.cell? ⟨q, 15, none⟩ = some (.int .u8 sc)) :
    Calls Try.prog 6 #[.pointer (some ⟨b, 0, none⟩), .pointer (some ⟨q, 0, none⟩), .int .u8 20, .int .u8 nw] w fun e w' => e = .returned (.int .i64 (cm ts sc 20 nw)) ∧ w = w' := by
  by_cases n1 : nw = 1
  · subst n1
    exact cm_20_1 b q ts sc w c1 c2
  by_cases n2 : nw = 2
  · subst n2
    exact cm_20_2 b q ts sc w c1 c2
  by_cases n4 : nw = 4
  · subst n4
    exact cm_20_4 b q ts sc w c1 c2
  by_cases n10 : nw = 10
  · subst n10
    exact cm_20_10 b q ts sc w c1 c2
  by_cases n11 : nw = 11
  · subst n11
    exact cm_20_11 b q ts sc w c1 c2
  by_cases n15 : nw = 15
  · subst n15
    exact cm_20_15 b q ts sc w c1 c2
  by_cases n16 : nw = 16
  · subst n16
    exact cm_20_16 b q ts sc w c1 c2
  by_cases n19 : nw = 19
  · subst n19
    exact cm_20_19 b q ts sc w c1 c2
  by_cases n20 : nw = 20
  · subst n20
    exact cm_20_20 b q ts sc w c1 c2
  exact cm_20_x b q ts sc nw w c1 c2 n1 n2 n4 n10 n11 n15 n16 n19 n20
theorem cme_21 (b q : Nat) (ts : Bool) (sc nw : Int) (w : World) (c1 : w.cell? ⟨b, 32, none⟩ = some (.bool ts)) (c2 : w.cell? ⟨q, 15, none⟩ = some (.int .u8 sc)) :
    Calls Try.prog 6 #[.pointer (some ⟨b, 0, none⟩), .pointer (some ⟨q, 0, none⟩), .int .u8 21, .int .u8 nw] w fun e w' => e = .returned (.int .i64 (cm ts sc 21 nw)) ∧ w = w' := by
  by_cases n1 : nw = 1
  · subst n1
    exact cm_21_1 b q ts sc w c1 c2
  by_cases n2 : nw = 2
  · subst n2
    exact cm_21_2 b q ts sc w c1 c2
  by_cases n4 : nw = 4
  · subst n4
    exact cm_21_4 b q ts sc w c1 c2
  by_cases n10 : nw = 10
  · subst n10
    exact cm_21_10 b q ts sc w c1 c2
  by_cases n11 : nw = 11
  · subst n11
    exact cm_21_11 b q ts sc w c1 c2
  by_cases n15 : nw = 15
  · subst n15
    exact cm_21_15 b q ts sc w c1 c2
  by_cases n16 : nw = 16
  · subst n16
    exact cm_21_16 b q ts sc w c1 c2
  by_cases n19 : nw = 19
  · subst n19
    exact cm_21_19 b q ts sc w c1 c2
  by_cases n20 : nw = 20
  · subst n20
    exact cm_21_20 b q ts sc w c1 c2
  exact cm_21_x b q ts sc nw w c1 c2 n1 n2 n4 n10 n11 n15 n16 n19 n20
theorem cme_x (b q : Nat) (ts : Bool) (sc ex nw : Int) (w : World) (c1 : w.cell? ⟨b, 32, none⟩ = some (.bool ts)) (c2 : w.cell? ⟨q, 15, none⟩ = some (.int .u8 sc)) (e0 : ex ≠ 0) (e1 : ex ≠ 1) (e2 : ex ≠ 2) (e3 : ex ≠ 3) (e4 : ex ≠ 4) (e5 : ex ≠ 5) (e6 : ex ≠ 6) (e10 : ex ≠ 10) (e11 : ex ≠ 11) (e15 : ex ≠ 15) (e16 : ex ≠ 16) (e19 : ex ≠ 19) (e20 : ex ≠ 20) (e21 : ex ≠ 21) :
    Calls Try.prog 6 #[.pointer (some ⟨b, 0, none⟩), .pointer (some ⟨q, 0, none⟩), .int .u8 ex, .int .u8 nw] w fun e w' => e = .returned (.int .i64 (cm ts sc ex nw)) ∧ w = w' := by
  by_cases n1 : nw = 1
  · subst n1
    exact cm_x_1 b q ts sc ex w c1 c2 e0 e1 e2 e3 e4 e5 e6 e10 e11 e15 e16 e19 e20 e21
  by_cases n2 : nw = 2
  · subst n2
    exact cm_x_2 b q ts sc ex w c1 c2 e0 e1 e2 e3 e4 e5 e6 e10 e11 e15 e16 e19 e20 e21
  by_cases n4 : nw = 4
  · subst n4
    exact cm_x_4 b q ts sc ex w c1 c2 e0 e1 e2 e3 e4 e5 e6 e10 e11 e15 e16 e19 e20 e21
  by_cases n10 : nw = 10
  · subst n10
    exact cm_x_10 b q ts sc ex w c1 c2 e0 e1 e2 e3 e4 e5 e6 e10 e11 e15 e16 e19 e20 e21
  by_cases n11 : nw = 11
  · subst n11
    exact cm_x_11 b q ts sc ex w c1 c2 e0 e1 e2 e3 e4 e5 e6 e10 e11 e15 e16 e19 e20 e21
  by_cases n15 : nw = 15
  · subst n15
    exact cm_x_15 b q ts sc ex w c1 c2 e0 e1 e2 e3 e4 e5 e6 e10 e11 e15 e16 e19 e20 e21
  by_cases n16 : nw = 16
  · subst n16
    exact cm_x_16 b q ts sc ex w c1 c2 e0 e1 e2 e3 e4 e5 e6 e10 e11 e15 e16 e19 e20 e21
  by_cases n19 : nw = 19
  · subst n19
    exact cm_x_19 b q ts sc ex w c1 c2 e0 e1 e2 e3 e4 e5 e6 e10 e11 e15 e16 e19 e20 e21
  by_cases n20 : nw = 20
  · subst n20
    exact cm_x_20 b q ts sc ex w c1 c2 e0 e1 e2 e3 e4 e5 e6 e10 e11 e15 e16 e19 e20 e21
  exact cm_x_x b q ts sc ex nw w c1 c2 e0 e1 e2 e3 e4 e5 e6 e10 e11 e15 e16 e19 e20 e21 n1 n2 n4 n10 n11 n15 n16 n19 n20
theorem cm_any (b q : Nat) (ts : Bool) (sc ex nw : Int) (w : World) (c1 : w.cell? ⟨b, 32, none⟩ = some (.bool ts)) (c2 : w.cell? ⟨q, 15, none⟩ = some (.int .u8 sc)) :
    Calls Try.prog 6 #[.pointer (some ⟨b, 0, none⟩), .pointer (some ⟨q, 0, none⟩), .int .u8 ex, .int .u8 nw] w fun e w' => e = .returned (.int .i64 (cm ts sc ex nw)) ∧ w = w' := by
  by_cases e0 : ex = 0
  · subst e0; exact cme_0 b q ts sc nw w c1 c2
  by_cases e1 : ex = 1
  · subst e1; exact cme_1 b q ts sc nw w c1 c2
  by_cases e2 : ex = 2
  · subst e2; exact cme_2 b q ts sc nw w c1 c2
  by_cases e3 : ex = 3
  · subst e3; exact cme_3 b q ts sc nw w c1 c2
  by_cases e4 : ex = 4
  · subst e4; exact cme_4 b q ts sc nw w c1 c2
  by_cases e5 : ex = 5
  · subst e5; exact cme_5 b q ts sc nw w c1 c2
  by_cases e6 : ex = 6
  · subst e6; exact cme_6 b q ts sc nw w c1 c2
  by_cases e10 : ex = 10
  · subst e10; exact cme_10 b q ts sc nw w c1 c2
  by_cases e11 : ex = 11
  · subst e11; exact cme_11 b q ts sc nw w c1 c2
  by_cases e15 : ex = 15
  · subst e15; exact cme_15 b q ts sc nw w c1 c2
  by_cases e16 : ex = 16
  · subst e16; exact cme_16 b q ts sc nw w c1 c2
  by_cases e19 : ex = 19
  · subst e19; exact cme_19 b q ts sc nw w c1 c2
  by_cases e20 : ex = 20
  · subst e20; exact cme_20 b q ts sc nw w c1 c2
  by_cases e21 : ex = 21
  · subst e21; exact cme_21 b q ts sc nw w c1 c2
  exact cme_x b q ts sc ex nw w c1 c2 e0 e1 e2 e3 e4 e5 e6 e10 e11 e15 e16 e19 e20 e21

/-- The cells of an empty parser. -/
noncomputable def pc : Array Value := (Try.prog.built 154 []).getD #[]
theorem built154 : Try.prog.built 154 [] = some pc := by kernel_rfl
theorem pc32 : pc[32]? = some (.bool false) := by kernel_rfl
theorem pcs32 (v : Value) : (pc.setIfInBounds 32 v)[32]? = some v := by
  have h : 32 < pc.size := (Array.getElem?_eq_some_iff.1 pc32).1
  rw [Array.getElem?_setIfInBounds_self_of_lt h]
theorem wp_build154 {o : Oper} {a : Act} {w : World} {K : Act → World → Prop} {Q : Exit → Act → World → Prop} (ho : o.op = .build 154 #[])
    (h : K (a.put o.dst (.agg pc)) w) : o.wp Try.prog a w K Q := by
  refine wp_build 154 _ ho ?_ ?_
  · simp only [List.map_toArray, List.map_nil, built154]; rfl
  · simp only [List.map_toArray, List.map_nil, built154, Option.getD_some]; exact h

set_option maxRecDepth 100000 in
set_option maxHeartbeats 1000000 in
theorem asks (ts : Bool) (sc ex nw : Int) (w : World) :
    Calls Try.prog 4 #[.bool ts, .int .u8 sc, .int .u8 ex, .int .u8 nw] w fun e w' => e = .returned (.int .i64 (cm ts sc ex nw)) ∧ Below w.heap.size w w' := by
  have p1 := pc32
  have p2 := pcs32
  go_enter Try.func4, Try.ntmps4
  go_wp2_with fail
  refine wp_build154 rfl ?_
  go_simp
  go_wp2_with fail
  refine (cm_any w.heap.size (w.heap.size + 1) ts sc ex nw _ ?c1 ?c2).mono ?_
  case c1 => go_simp
  case c2 => go_simp
  rintro e w' ⟨rfl, rfl⟩
  go_wp2_with fail
  go_ret
  exact ⟨rfl, ((Below.refl _ _).alloc (Nat.le_refl _) _).alloc (by simp) _⟩

theorem cm_bd (ts : Bool) (sc ex nw : Int) : 0 ≤ cm ts sc ex nw ∧ cm ts sc ex nw ≤ 5 := by
  unfold cm; repeat' split <;> omega
theorem cm_sc (ts : Bool) (sc sc' ex nw : Int) (h : ¬ (hf ex = true ∧ hf nw = true)) : cm ts sc ex nw = cm ts sc' ex nw := by
  have h2 : ¬ ((nw = 1 ∨ nw = 2 ∨ nw = 4) ∧ (ex = 1 ∨ ex = 2 ∨ ex = 4)) := by
    intro ⟨a, b⟩; apply h; simp [hf]; omega
  have e : ∀ s : Int, ((nw = 1 ∨ nw = 2 ∨ nw = 4) ∧ (ex = 1 ∨ ex = 2 ∨ ex = 4) ∧ (s = 6 ∨ s = 8 ∨ s = 7 ∨ (nw = ex ∧ (nw = 1 ∨ nw = 2)))) ↔ False := by
    intro s; constructor
    · intro ⟨a, b, _⟩; exact h2 ⟨a, b⟩
    · exact False.elim
  unfold cm
  simp only [e]
theorem cm_ts (ts ts' : Bool) (sc ex nw : Int) (h : ex ≠ 21) : cm ts sc ex nw = cm ts' sc ex nw := by
  unfold cm
  simp only [h, and_false]
theorem cm_swap (ts : Bool) (sc ex nw : Int) (h : cm ts sc ex nw = 4 ∨ cm ts sc ex nw = 5) : cm ts sc nw ex = cm ts sc ex nw := by
  have h2 : (ex = 10 ∧ nw = 11) ∨ (ex = 11 ∧ nw = 10) ∨ (ex = 15 ∧ nw = 16) ∨ (ex = 16 ∧ nw = 15) := by
    unfold cm at h
    revert h
    repeat' split <;> omega
  rcases h2 with ⟨rfl, rfl⟩ | ⟨rfl, rfl⟩ | ⟨rfl, rfl⟩ | ⟨rfl, rfl⟩ <;> simp [cm]
end Go.Proofs.Ytnemldibhdphoaa.cms
