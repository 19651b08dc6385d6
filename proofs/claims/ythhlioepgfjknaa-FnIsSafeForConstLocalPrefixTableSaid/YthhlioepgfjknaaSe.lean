/-
  Safe expressions: the statement walked.
-/
import Derived.Test.YthhlioepgfjknaaSd
namespace Go.Proofs.Ythhlioepgfjknaa.sf
open Go.ChangeShapes Go.WideShapes Go.ChangeAt Go.RowKit Go.Deep
set_option linter.unusedVariables false
set_option linter.unusedSimpArgs false

theorem safe21 (w : World) (d T b : Nat) (s : Bool) (l : Int) (h : Sf (fun _ => True) w d T b s) : Calls Try.prog 21 #[.agg #[.iface T (.pointer (some ⟨b, 0, none⟩)), .int .i32 l]] w (SafeP w s) := by
  have HS := Lib.hid h
  clear h
  go_enter Try.func21, Try.ntmps21
  go_wp2_with fail
  refine (safe35 _ d _ T b s l (HS.out.below ((Below.refl _ _).alloc (Nat.le_refl _) _))).mono ?_
  rintro e w2 ⟨rfl, hb⟩
  have HB := Lib.hid (((Below.refl w.heap.size w).alloc (Nat.le_refl _) (.cells #[.iface T (.pointer (some ⟨b, 0, none⟩)), .int .i32 l] 30)).trans (hb.mono (by simp)))
  clear hb
  go_simp
  go_wp2_with fail
  go_ret
  exact ⟨rfl, HB.out⟩
theorem bytes17 (w : World) (z : Int) (a b : Option Addr) (la lb ca cb : Nat) (v : Bool) (hv : decide (la + lb ≤ 1048576) = v) (ha : la ≤ maxLen) (hb : lb ≤ maxLen) : Calls Try.prog 17 #[.int .u8 z, .slice a la ca, .slice b lb cb] w fun e w' => e = .returned (.bool v) ∧ w = w' := by
  unfold maxLen at ha hb
  have HV := Lib.hid hv
  clear hv
  by_cases h1 : 1048576 < la
  · obtain rfl : v = false := by rw [← HV.out]; simp; omega
    go_enter Try.func17, Try.ntmps17
    go_wp2
    go_ret
    exact ⟨rfl, rfl⟩
  by_cases h2 : 1048576 < lb
  · obtain rfl : v = false := by rw [← HV.out]; simp; omega
    go_enter Try.func17, Try.ntmps17
    go_wp2
    go_ret
    exact ⟨rfl, rfl⟩
  by_cases h3 : 1048576 < la + lb
  · obtain rfl : v = false := by rw [← HV.out]; simp; omega
    go_enter Try.func17, Try.ntmps17
    go_wp2
    go_ret
    exact ⟨rfl, rfl⟩
  obtain rfl : v = true := by rw [← HV.out]; simp; omega
  go_enter Try.func17, Try.ntmps17
  go_wp2
  go_ret
  exact ⟨rfl, rfl⟩
theorem allS_succ (s : Nat → Bool) (k : Nat) : allS s (k + 1) = (allS s k && s k) := by simp [allS, List.range_succ]
theorem prod_le {x y : Nat} (hx : x ≤ 65537) (hy : y ≤ 65536) : 0 ≤ (x : Int) * (y : Int) ∧ (x : Int) * (y : Int) ≤ 4295032832 := by
  have h := Nat.mul_le_mul hx hy
  rw [← Int.natCast_mul]
  omega
set_option maxRecDepth 100000 in
set_option maxHeartbeats 4000000 in
theorem law33 (w : World) (z : Int) (hz0 : 0 ≤ z) (hz1 : z < 256) (a b : Option Addr) (la lb ca cb : Nat) (Za Zb : Nat → Int) (hla : la ≤ maxLen) (hlb : lb ≤ maxLen) (hA : U8s w a la Za) (hB : U8s w b lb Zb) :
    Calls Try.prog 5 #[.int .u8 z, .slice a la ca, .slice b lb cb] w fun e w' => e = .returned (.bool true) ∧ Below w.heap.size w w' := by
  have HA := Lib.hid hA
  have HB := Lib.hid hB
  clear hA hB
  by_cases h1 : la + lb ≤ 1048576
  · have H17 := Lib.hid (bytes17 w z a b la lb ca cb true (by simpa using h1) hla hlb)
    clear hla hlb
    by_cases h2 : 65536 < la
    · go_enter Try.func5, Try.ntmps5
      go_wp2_with (go_at_call 17; (with_reducible refine H17.out.mono ?_); rintro e w' ⟨rfl, rfl⟩)
      go_ret
      exact ⟨rfl, Below.refl _ _⟩
    by_cases h3 : 65536 < lb
    · go_enter Try.func5, Try.ntmps5
      go_wp2_with (go_at_call 17; (with_reducible refine H17.out.mono ?_); rintro e w' ⟨rfl, rfl⟩)
      go_ret
      exact ⟨rfl, Below.refl _ _⟩
    have h2' : la ≤ 65536 := by omega
    have h3' : lb ≤ 65536 := by omega
    obtain ⟨sn, hsn⟩ : ∃ sn, allS (fun i => fs (Zb i)) lb = sn := ⟨_, rfl⟩
    have H19 := arr19 w b lb cb Zb h3' HB.out
    have H20 := fun w1 (hb1 : Below w.heap.size w w1) => all20 w1 b lb cb Zb h3' ⟨HB.out.1.below hb1, HB.out.2⟩
    simp only [hsn] at H19 H20
    clear hsn
    have H19' := Lib.hid H19
    have H20' := Lib.hid H20
    clear H19 H20
    obtain ⟨tv, htv⟩ : ∃ tv, is z sn = tv := ⟨_, rfl⟩
    have H22 := fun w1 bn ln hs => item22 w1 z hz0 hz1 (fun _ => True) (fun _ _ => trivial) bn ln sn hs
    have H23 := fun w1 => is23 w1 z hz0 hz1 sn
    simp only [htv] at H22 H23
    clear htv
    have H22' := Lib.hid H22
    have H23' := Lib.hid H23
    clear H22 H23
    go_enter Try.func5, Try.ntmps5
    go_wp2_with (go_at_call 17; (with_reducible refine H17.out.mono ?_); rintro e w' ⟨rfl, rfl⟩)
    refine (count18 _ a la ca Za h2' HA.out).mono ?_
    rintro e w' ⟨c, hc, rfl, rfl⟩
    have hp : 0 ≤ (((c : Int) + 1) * (lb : Int)) ∧ (((c : Int) + 1) * (lb : Int)) ≤ 4295032832 := prod_le (x := c + 1) (by omega) h3'
    obtain ⟨p0, p1⟩ := hp
    by_cases h4 : 1048576 < ((c : Int) + 1) * (lb : Int)
    · go_wp2_with fail
      go_ret
      exact ⟨rfl, Below.refl _ _⟩
    go_wp2_with fail
    clear h4 p0 p1 hc
    refine H19'.out.mono ?_
    rintro e w1 ⟨bn, rfl, hS, hb⟩
    have HB1 := Lib.hid hb
    have HS1 := Lib.hid hS
    have hsz := hb.size
    clear hb hS
    go_simp
    go_wp2_with fail
    refine (H20'.out _ (HB1.out.alloc hsz _)).mono ?_
    rintro e w' ⟨rfl, rfl⟩
    go_simp
    go_wp2_with fail
    refine (H22'.out _ bn 0 (HS1.out.below ((Below.refl _ _).alloc (Nat.le_refl _) _))).mono ?_
    rintro e w2 ⟨T, b2, l, rfl, hS, hb⟩
    have q0 : w2.cell? ⟨w1.heap.size, 0, none⟩ = some (.iface 200 (.pointer (some ⟨bn, 0, none⟩))) := (hb.cell (p := ⟨w1.heap.size, 0, none⟩) (by simp)).trans (by simp)
    have q1 : w2.cell? ⟨w1.heap.size, 1, none⟩ = some (.int .i32 0) := (hb.cell (p := ⟨w1.heap.size, 1, none⟩) (by simp)).trans (by simp)
    have hz2 : w1.heap.size < w2.heap.size := by have := hb.size; simp at this; omega
    have HB2 := Lib.hid ((HB1.out.alloc hsz (.cells #[.iface 200 (.pointer (some ⟨bn, 0, none⟩)), .int .i32 0] 30)).trans (hb.mono (by simp; omega)))
    have HN2 := Lib.hid ((HS1.out.below ((Below.refl _ _).alloc (Nat.le_refl _) (.cells #[.iface 200 (.pointer (some ⟨bn, 0, none⟩)), .int .i32 0] 30))).below hb)
    have HT := Lib.hid hS
    clear hS hb
    go_simp
    go_wp2_with fail
    refine (safe21 _ 2 T b2 tv l HT.out).mono ?_
    rintro e w3 ⟨rfl, hb⟩
    have r0 := (hb.cell (p := ⟨w1.heap.size, 0, none⟩) hz2).trans q0
    have r1 := (hb.cell (p := ⟨w1.heap.size, 1, none⟩) hz2).trans q1
    have hz3 : w1.heap.size < w3.heap.size := Nat.lt_of_lt_of_le hz2 hb.size
    have HB3 := Lib.hid (HB2.out.trans (hb.mono (by have := HB2.out.size; omega)))
    have HN3 := Lib.hid (HN2.out.below hb)
    clear hb q0 q1 HB2 HN2 HT hz2
    go_simp
    go_wp2_with fail
    refine (H23'.out _).mono ?_
    rintro e w' ⟨rfl, rfl⟩
    have et : (tv != tv) = false := by simp
    go_simp
    go_wp2_with fail
    go_loopw [9, 10] (fun x i wr => ∃ k : Nat, k ≤ la ∧ i = .int .i64 k ∧ x = .bool (allS (fun i => is (Za i) sn) k) ∧ w3 = wr) (fun _ i _ => la - (intOf i).toNat)
    case atStart => exact ⟨0, by omega, rfl, rfl, rfl⟩
    case round =>
      obtain ⟨k, hk, rfl, rfl, rfl⟩ := hrel
      by_cases hlt : k < la
      · obtain ⟨ab, off, rfl, hcell⟩ := (HA.out.1.below HB3.out) (by omega)
        have c1 := hcell k hlt
        obtain ⟨z0, z1⟩ := HA.out.2 k
        clear hcell
        go_wp2_with fail
        refine (is23 _ (Za k) z0 z1 sn).mono ?_
        rintro e w' ⟨rfl, rfl⟩
        have hsu := allS_succ (fun i => is (Za i) sn) k
        cases hv : is (Za k) sn
        · simp only [hv, Bool.and_false] at hsu
          have HX := Lib.hid hsu
          clear hv hsu
          go_simp
          go_wp2_with fail
          go_roundw
          case rel => exact ⟨k + 1, by omega, by go_num, by rw [HX.out], by first | trivial | rfl⟩
          case measure => simp [intOf]; omega
        · simp only [hv, Bool.and_true] at hsu
          have HX := Lib.hid hsu
          clear hv hsu
          go_simp
          go_wp2_with fail
          go_roundw
          case rel => exact ⟨k + 1, by omega, by go_num, by rw [HX.out], by first | trivial | rfl⟩
          case measure => simp [intOf]; omega
      · obtain rfl : k = la := by omega
        go_wp2_with fail
        refine (arr24 _ a k ca Za h2' ⟨HA.out.1.below HB3.out, HA.out.2⟩ bn 0 sn HN3.out).mono ?_
        rintro e w4 ⟨b4, rfl, hS, hb⟩
        have HB4 := Lib.hid (HB3.out.trans (hb.mono HB3.out.size))
        have HS4 := Lib.hid hS
        clear hb hS
        go_simp
        go_wp2_with fail
        refine (safe21 _ 3 200 b4 _ 0 HS4.out).mono ?_
        rintro e w5 ⟨rfl, hb⟩
        have HB5 := Lib.hid (HB4.out.trans (hb.mono HB4.out.size))
        clear hb HB4 HS4
        generalize allS (fun i => is (Za i) sn) k = v
        cases v
        all_goals
          go_simp
          go_wp2_with fail
          go_ret
          exact ⟨rfl, HB5.out⟩
  · have H17 := Lib.hid (bytes17 w z a b la lb ca cb false (by simpa using h1) hla hlb)
    clear hla hlb
    go_enter Try.func5, Try.ntmps5
    go_wp2_with (go_at_call 17; (with_reducible refine H17.out.mono ?_); rintro e w' ⟨rfl, rfl⟩)
    go_ret
    exact ⟨rfl, Below.refl _ _⟩
theorem u8s {w : World} {a : Option Addr} {n c : Nat} {Z : Nat → Int} (h : IsInts .u8 w a n c Z) : U8s w a n Z :=
  ⟨h.2.2.1, fun i => by have := h.2.2.2 i; simp [Lit.wf, IntKind.min, IntKind.max, IntKind.signed, IntKind.bits] at this; omega⟩
end Go.Proofs.Ythhlioepgfjknaa.sf
