/-
  Chains of expressions: the law, walked.
-/
import Derived.Test.YtomgcoggplaklaaLb
namespace Go.Proofs.Ytomgcoggplaklaa.ch
open Go.ChangeShapes Go.WideShapes Go.ChangeAt Go.RowKit Go.Deep Go.Proofs.Ytomgcoggplaklaa.mk
set_option linter.unusedVariables false
set_option linter.unusedSimpArgs false
set_option maxRecDepth 100000 in
set_option maxHeartbeats 8000000 in
theorem law_n_true_true (w : World) (a0 : Option Addr) (n cap0 : Nat) (U : Nat → Int) (k : Int) (a2 : Option Addr) (sn cap2 : Nat) (Z : Nat → Int) (ph : Bool) (pc : Int) (h0 : IsInts .u32 w a0 n cap0 U) (h2 : IsInts .u8 w a2 sn cap2 Z) :
    Calls Try.prog 3 #[.slice a0 n cap0, .int .i64 k, .slice a2 sn cap2, .bool true, .bool true, .bool false, .bool ph, .int .u32 pc] w (LawP w) := by
  have HU := Lib.hid h0
  have HZ := Lib.hid h2
  clear h0 h2
  go_enter Try.func3, Try.ntmps3
  go_wp2_with fail
  refine (bytes4 w a0 n cap0 k a2 sn cap2 true true false ph pc).mono ?_
  rintro e w' ⟨rfl, rfl | ⟨rfl, hb1, hb2⟩⟩
  · go_simp
    go_wp2_with fail
    go_ret
    exact ⟨rfl, Below.refl _ _⟩
  by_cases t1 : decide ((1048576 : Int) < (n : Int) * 4 + (sn : Int)) = true
  · go_simp
    go_wp2_with fail
    go_ret
    exact ⟨rfl, Below.refl _ _⟩
  replace t1 : decide ((1048576 : Int) < (n : Int) * 4 + (sn : Int)) = false := by simpa using t1
  by_cases t2 : ((n : Int) == 0) = true
  · go_simp
    go_wp2_with fail
    go_ret
    exact ⟨rfl, Below.refl _ _⟩
  replace t2 : ((n : Int) == 0) = false := by simpa using t2
  by_cases t3 : decide ((65536 : Int) < (n : Int)) = true
  · go_simp
    go_wp2_with fail
    go_ret
    exact ⟨rfl, Below.refl _ _⟩
  replace t3 : decide ((65536 : Int) < (n : Int)) = false := by simpa using t3
  by_cases t4 : decide ((65536 : Int) < (sn : Int)) = true
  · go_simp
    go_wp2_with fail
    go_ret
    exact ⟨rfl, Below.refl _ _⟩
  replace t4 : decide ((65536 : Int) < (sn : Int)) = false := by simpa using t4
  by_cases t5 : decide (k < 0) = true
  · go_simp
    go_wp2_with fail
    go_ret
    exact ⟨rfl, Below.refl _ _⟩
  replace t5 : decide (k < 0) = false := by simpa using t5
  obtain ⟨k, rfl⟩ : ∃ q : Nat, k = q := ⟨k.toNat, by have := of_decide_eq_false t5; omega⟩
  by_cases t6 : decide (n ≤ k) = true
  · have t7 : decide ((n : Int) ≤ (k : Int)) = true := by simpa using t6
    go_simp
    go_wp2_with fail
    go_ret
    exact ⟨rfl, Below.refl _ _⟩
  replace t6 : decide (n ≤ k) = false := by simpa using t6
  have t7 : decide ((n : Int) ≤ (k : Int)) = false := by simpa using t6
  have HF : Hid (1 ≤ n ∧ n ≤ 65536 ∧ sn ≤ 65536 ∧ k < n) := Lib.hid (by
    have e2 : ¬ (n : Int) = 0 := by simpa using t2
    have e3 := of_decide_eq_false t3
    have e4 := of_decide_eq_false t4
    have e6 := of_decide_eq_false t6
    omega)
  go_simp
  go_wp2_with fail
  refine (syms5 w' a0 n cap0 U HF.out.2.1 HU.out.2.2.1).mono ?_
  rintro e w1 ⟨SB, rfl, hSB1, hSB2, hcol, hfrz, hB1⟩
  have HB2 : Hid (Bs w' ((w1.alloc (.cells #[.int .u32 0, .int .u32 k] 29)).alloc (.cells #[.int .u32 7, .int .u32 k] 29)) SB n k w1.heap.size (w1.heap.size + 1) U) := Lib.hid (Bs.start hcol hfrz hSB1 hSB2 hB1)
  have hn6 := HF.out.2.1
  have hsn6 : sn ≤ 65536 := HF.out.2.2.1
  have hkn : k ≤ 65536 := by have := HF.out; omega
  clear hcol hfrz hB1 hSB1 hb1 hb2 hSB2
  go_simp
  go_wp2_with fail
  generalize ((w1.alloc (.cells #[.int .u32 0, .int .u32 k] 29)).alloc (.cells #[.int .u32 7, .int .u32 k] 29)) = w2 at *
  refine (new6 w2 (some ⟨SB, 0, none⟩) n n none true).mono ?_
  rintro e wP hN
  obtain ⟨g, rfl, hA⟩ := Al.mk0 HB2.out hN
  have HA := Lib.hid hA
  clear hN hA HB2
  have HC : Hid (Counts (fun _ => none)) := Lib.hid (fun q v h => by cases h)
  have HE : Hid (g < wP.heap.size ∧ ∀ p : Nat × Nat, none = some p → p.1 < wP.heap.size ∧ p.2 < wP.heap.size) := Lib.hid HA.out.lts
  have HA1 : Hid (Al w' (wP.alloc (.cells #[.nilIface, .int .i32 0] 49)) g SB n k w1.heap.size (w1.heap.size + 1) true none U 0 (fun _ => none)) := Lib.hid (HA.out.keep HE.out ((Below.refl _ _).alloc (Nat.le_refl _) _))
  have HX1 : Hid ((wP.alloc (.cells #[.nilIface, .int .i32 0] 49)).heap[wP.heap.size]? = some (.cells #[.nilIface, .int .i32 0] 49 (0, 0))) := Lib.hid (heap_alloc_new wP _)
  have HES : Hid (wP.heap.size + 1 ≤ (wP.alloc (.cells #[.nilIface, .int .i32 0] 49)).heap.size) := Lib.hid (by simp)
  have hT1 := HA1.out.2.1.t0
  have hT2 := HA1.out.2.1.t1
  go_simp
  go_wp2_with fail
  generalize wP.alloc (.cells #[.nilIface, .int .i32 0] 49) = wQ at *
  generalize wP.heap.size = E at *
  refine (ident7 wQ (E + 1) k HES.out).mono ?_
  rintro e w3 hN
  obtain ⟨b, rfl, y0, y1, y2, y3, hL⟩ := Lo.next HA1.out HX1.out HE.out hN
  have HL0 := Lib.hid hL
  clear hN hL HA HA1 HX1 HES hT1 hT2
  go_simp
  go_wp2_with fail
  clear y0 y1 y2 y3
  go_loopw [24, 25] (fun q j wr => ∃ (i b T : Nat) (hit : Bool), i ≤ sn ∧ q = .bool hit ∧ j = .int .i64 i ∧ Lo w' wr g SB n k w1.heap.size (w1.heap.size + 1) true none U 0 (fun _ => none) E hit T b) (fun _ j _ => sn - (intOf j).toNat)
  case atStart => exact ⟨0, b, _, true, by omega, rfl, rfl, HL0.out⟩
  case round =>
    clear HL0
    obtain ⟨i, b, T, hit, hi, rfl, rfl, hL⟩ := hrel
    have HL := Lib.hid hL
    have x0 := cell_of_row _ _ 0 _ _ _ hL.2.1
    have x1 := cell_of_row _ _ 1 _ _ _ hL.2.1
    simp only [List.getElem?_toArray, List.getElem?_cons_zero, List.getElem?_cons_succ] at x0 x1
    clear hL
    by_cases hlt : i < sn
    · obtain ⟨bb, off, rfl, hcell⟩ := (HZ.out.2.2.1.below HL.out.1.2.1.bel) (by omega)
      have e2 := hcell i hlt
      have hzb : 0 ≤ Z i ∧ Z i < 256 := by
        have := HZ.out.2.2.2 i; simp [Lit.wf] at this; have q1 : IntKind.u8.min = 0 := rfl; have q2 : IntKind.u8.max = 255 := rfl; omega
      clear hcell
      have hrr : Z i % 4 = 0 ∨ Z i % 4 = 1 ∨ Z i % 4 = 2 ∨ Z i % 4 = 3 := by omega
      obtain ⟨hz0, hz1⟩ := hzb
      rename World => wr
      rcases hrr with hr | hr | hr | hr
      · go_wp2_with fail
        refine (dot9 wr (E + 1) k T b hit HL.out.2.2.2 HL.out.2.2.1).mono ?_
        rintro e w6 hN
        obtain ⟨b', rfl, y0, y1, y2, y3, hL⟩ := Lo.next HL.out.1 HL.out.2.1 HE.out hN
        have HL6 := Lib.hid hL
        clear hN hL hr
        go_simp
        go_wp2_with fail
        go_roundw
        case rel => exact ⟨i + 1, b', 195, hit, by omega, rfl, by go_num, HL6.out⟩
        case measure => simp [intOf]; omega
      · go_wp2_with fail
        refine (str10 wr (E + 1) k T b hit HL.out.2.2.2 HL.out.2.2.1).mono ?_
        rintro e w6 hN
        obtain ⟨b', rfl, y0, y1, y2, y3, hL⟩ := Lo.next HL.out.1 HL.out.2.1 HE.out hN
        have HL6 := Lib.hid hL
        clear hN hL hr
        go_simp
        go_wp2_with fail
        go_roundw
        case rel => exact ⟨i + 1, b', 199, hit, by omega, rfl, by go_num, HL6.out⟩
        case measure => simp [intOf]; omega
      · go_wp2_with fail
        refine (one11 wr (E + 1) k T b HL.out.2.2.2).mono ?_
        rintro e w6 hN
        obtain ⟨b', rfl, y0, y1, y2, y3, hL⟩ := Lo.next HL.out.1 HL.out.2.1 HE.out hN
        have HL6 := Lib.hid hL
        clear hN hL hr
        go_simp
        go_wp2_with fail
        go_roundw
        case rel => exact ⟨i + 1, b', 199, false, by omega, rfl, by go_num, HL6.out⟩
        case measure => simp [intOf]; omega
      · go_wp2_with fail
        refine (call12 wr (E + 1) k T b HL.out.2.2.2).mono ?_
        rintro e w6 hN
        obtain ⟨b', rfl, y0, y1, y2, y3, hL⟩ := Lo.next HL.out.1 HL.out.2.1 HE.out hN
        have HL6 := Lib.hid hL
        clear hN hL hr
        go_simp
        go_wp2_with fail
        go_roundw
        case rel => exact ⟨i + 1, b', 205, false, by omega, rfl, by go_num, HL6.out⟩
        case measure => simp [intOf]; omega
    · obtain rfl : i = sn := by omega
      go_wp2_with fail
      rename World => wr
      refine (ig13 wr g SB n k (E + 1) b T true hit none U 0 (fun _ => none) HL.out.1.1 HF.out.2.2.2 hn6 HC.out HL.out.2.2.1).mono ?_
      rintro e w6 hI
      have hFi := Fi.of HL.out.1 hI
      obtain ⟨rfl, _, _⟩ := hI
      have HFi := Lib.hid hFi
      clear hFi HL x0 x1 hlt
      cases hit
      · have HG : Hid (Fi w' w6 g SB n k w1.heap.size (w1.heap.size + 1) true none U 0 (fun _ => none)) := Lib.hid HFi.out
        clear HFi
        go_simp
        go_wp2_with fail
        refine (syms14 w6 g SB n true none U 0 (fun _ => none) HG.out.ps).mono ?_
        rintro e w7 ⟨rfl, rfl⟩
        have hnn : ((n : Int) != (n : Int)) = false := by simp
        go_simp
        go_wp2_with fail
        go_loop [28] (fun j => ∃ q : Nat, q ≤ n ∧ j = .int .i64 q) (fun j => n - (intOf j).toNat)
        case atStart => exact ⟨0, by omega, rfl⟩
        case round =>
          obtain ⟨q, hq, rfl⟩ := hrel
          by_cases hqn : q < n
          · obtain ⟨bb, off, rfl, hcell⟩ := (HU.out.2.2.1.below HG.out.bel) (by omega)
            have e2 : _ = some (Value.int .u32 (U q)) := hcell q hqn
            have e3 := HG.out.ps.col q hqn
            clear hcell
            have hx : (U q != U q) = false := by simp
            go_wp2_with fail
            go_round
            case rel => exact ⟨q + 1, by omega, by go_num⟩
            case measure => simp [intOf]; omega
          · obtain rfl : q = n := by omega
            go_wp2_with fail
            go_ret
            exact ⟨rfl, HG.out.bel⟩
      · have HG : Hid (Fi w' w6 g SB n k w1.heap.size (w1.heap.size + 1) true none U 0 (fun _ => none)) := Lib.hid HFi.out
        clear HFi
        go_simp
        go_wp2_with fail
        refine (syms14 w6 g SB n true none U 0 (fun _ => none) HG.out.ps).mono ?_
        rintro e w7 ⟨rfl, rfl⟩
        have hnn : ((n : Int) != (n : Int)) = false := by simp
        go_simp
        go_wp2_with fail
        go_loop [28] (fun j => ∃ q : Nat, q ≤ n ∧ j = .int .i64 q) (fun j => n - (intOf j).toNat)
        case atStart => exact ⟨0, by omega, rfl⟩
        case round =>
          obtain ⟨q, hq, rfl⟩ := hrel
          by_cases hqn : q < n
          · obtain ⟨bb, off, rfl, hcell⟩ := (HU.out.2.2.1.below HG.out.bel) (by omega)
            have e2 : _ = some (Value.int .u32 (U q)) := hcell q hqn
            have e3 := HG.out.ps.col q hqn
            clear hcell
            have hx : (U q != U q) = false := by simp
            go_wp2_with fail
            go_round
            case rel => exact ⟨q + 1, by omega, by go_num⟩
            case measure => simp [intOf]; omega
          · obtain rfl : q = n := by omega
            go_wp2_with fail
            go_ret
            exact ⟨rfl, HG.out.bel⟩
set_option maxRecDepth 100000 in
set_option maxHeartbeats 8000000 in
theorem law_n_true_false (w : World) (a0 : Option Addr) (n cap0 : Nat) (U : Nat → Int) (k : Int) (a2 : Option Addr) (sn cap2 : Nat) (Z : Nat → Int) (ph : Bool) (pc : Int) (h0 : IsInts .u32 w a0 n cap0 U) (h2 : IsInts .u8 w a2 sn cap2 Z) :
    Calls Try.prog 3 #[.slice a0 n cap0, .int .i64 k, .slice a2 sn cap2, .bool true, .bool false, .bool false, .bool ph, .int .u32 pc] w (LawP w) := by
  have HU := Lib.hid h0
  have HZ := Lib.hid h2
  clear h0 h2
  go_enter Try.func3, Try.ntmps3
  go_wp2_with fail
  refine (bytes4 w a0 n cap0 k a2 sn cap2 true false false ph pc).mono ?_
  rintro e w' ⟨rfl, rfl | ⟨rfl, hb1, hb2⟩⟩
  · go_simp
    go_wp2_with fail
    go_ret
    exact ⟨rfl, Below.refl _ _⟩
  by_cases t1 : decide ((1048576 : Int) < (n : Int) * 4 + (sn : Int)) = true
  · go_simp
    go_wp2_with fail
    go_ret
    exact ⟨rfl, Below.refl _ _⟩
  replace t1 : decide ((1048576 : Int) < (n : Int) * 4 + (sn : Int)) = false := by simpa using t1
  by_cases t2 : ((n : Int) == 0) = true
  · go_simp
    go_wp2_with fail
    go_ret
    exact ⟨rfl, Below.refl _ _⟩
  replace t2 : ((n : Int) == 0) = false := by simpa using t2
  by_cases t3 : decide ((65536 : Int) < (n : Int)) = true
  · go_simp
    go_wp2_with fail
    go_ret
    exact ⟨rfl, Below.refl _ _⟩
  replace t3 : decide ((65536 : Int) < (n : Int)) = false := by simpa using t3
  by_cases t4 : decide ((65536 : Int) < (sn : Int)) = true
  · go_simp
    go_wp2_with fail
    go_ret
    exact ⟨rfl, Below.refl _ _⟩
  replace t4 : decide ((65536 : Int) < (sn : Int)) = false := by simpa using t4
  by_cases t5 : decide (k < 0) = true
  · go_simp
    go_wp2_with fail
    go_ret
    exact ⟨rfl, Below.refl _ _⟩
  replace t5 : decide (k < 0) = false := by simpa using t5
  obtain ⟨k, rfl⟩ : ∃ q : Nat, k = q := ⟨k.toNat, by have := of_decide_eq_false t5; omega⟩
  by_cases t6 : decide (n ≤ k) = true
  · have t7 : decide ((n : Int) ≤ (k : Int)) = true := by simpa using t6
    go_simp
    go_wp2_with fail
    go_ret
    exact ⟨rfl, Below.refl _ _⟩
  replace t6 : decide (n ≤ k) = false := by simpa using t6
  have t7 : decide ((n : Int) ≤ (k : Int)) = false := by simpa using t6
  have HF : Hid (1 ≤ n ∧ n ≤ 65536 ∧ sn ≤ 65536 ∧ k < n) := Lib.hid (by
    have e2 : ¬ (n : Int) = 0 := by simpa using t2
    have e3 := of_decide_eq_false t3
    have e4 := of_decide_eq_false t4
    have e6 := of_decide_eq_false t6
    omega)
  go_simp
  go_wp2_with fail
  refine (syms5 w' a0 n cap0 U HF.out.2.1 HU.out.2.2.1).mono ?_
  rintro e w1 ⟨SB, rfl, hSB1, hSB2, hcol, hfrz, hB1⟩
  have HB2 : Hid (Bs w' ((w1.alloc (.cells #[.int .u32 0, .int .u32 k] 29)).alloc (.cells #[.int .u32 7, .int .u32 k] 29)) SB n k w1.heap.size (w1.heap.size + 1) U) := Lib.hid (Bs.start hcol hfrz hSB1 hSB2 hB1)
  have hn6 := HF.out.2.1
  have hsn6 : sn ≤ 65536 := HF.out.2.2.1
  have hkn : k ≤ 65536 := by have := HF.out; omega
  clear hcol hfrz hB1 hSB1 hb1 hb2 hSB2
  go_simp
  go_wp2_with fail
  generalize ((w1.alloc (.cells #[.int .u32 0, .int .u32 k] 29)).alloc (.cells #[.int .u32 7, .int .u32 k] 29)) = w2 at *
  refine (new6 w2 (some ⟨SB, 0, none⟩) n n none false).mono ?_
  rintro e wP hN
  obtain ⟨g, rfl, hA⟩ := Al.mk0 HB2.out hN
  have HA := Lib.hid hA
  clear hN hA HB2
  have HC : Hid (Counts (fun _ => none)) := Lib.hid (fun q v h => by cases h)
  have HE : Hid (g < wP.heap.size ∧ ∀ p : Nat × Nat, none = some p → p.1 < wP.heap.size ∧ p.2 < wP.heap.size) := Lib.hid HA.out.lts
  have HA1 : Hid (Al w' (wP.alloc (.cells #[.nilIface, .int .i32 0] 49)) g SB n k w1.heap.size (w1.heap.size + 1) false none U 0 (fun _ => none)) := Lib.hid (HA.out.keep HE.out ((Below.refl _ _).alloc (Nat.le_refl _) _))
  have HX1 : Hid ((wP.alloc (.cells #[.nilIface, .int .i32 0] 49)).heap[wP.heap.size]? = some (.cells #[.nilIface, .int .i32 0] 49 (0, 0))) := Lib.hid (heap_alloc_new wP _)
  have HES : Hid (wP.heap.size + 1 ≤ (wP.alloc (.cells #[.nilIface, .int .i32 0] 49)).heap.size) := Lib.hid (by simp)
  have hT1 := HA1.out.2.1.t0
  have hT2 := HA1.out.2.1.t1
  go_simp
  go_wp2_with fail
  generalize wP.alloc (.cells #[.nilIface, .int .i32 0] 49) = wQ at *
  generalize wP.heap.size = E at *
  refine (ident7 wQ (E + 1) k HES.out).mono ?_
  rintro e w3 hN
  obtain ⟨b, rfl, y0, y1, y2, y3, hL⟩ := Lo.next HA1.out HX1.out HE.out hN
  have HL0 := Lib.hid hL
  clear hN hL HA HA1 HX1 HES hT1 hT2
  go_simp
  go_wp2_with fail
  clear y0 y1 y2 y3
  go_loopw [24, 25] (fun q j wr => ∃ (i b T : Nat) (hit : Bool), i ≤ sn ∧ q = .bool hit ∧ j = .int .i64 i ∧ Lo w' wr g SB n k w1.heap.size (w1.heap.size + 1) false none U 0 (fun _ => none) E hit T b) (fun _ j _ => sn - (intOf j).toNat)
  case atStart => exact ⟨0, b, _, true, by omega, rfl, rfl, HL0.out⟩
  case round =>
    clear HL0
    obtain ⟨i, b, T, hit, hi, rfl, rfl, hL⟩ := hrel
    have HL := Lib.hid hL
    have x0 := cell_of_row _ _ 0 _ _ _ hL.2.1
    have x1 := cell_of_row _ _ 1 _ _ _ hL.2.1
    simp only [List.getElem?_toArray, List.getElem?_cons_zero, List.getElem?_cons_succ] at x0 x1
    clear hL
    by_cases hlt : i < sn
    · obtain ⟨bb, off, rfl, hcell⟩ := (HZ.out.2.2.1.below HL.out.1.2.1.bel) (by omega)
      have e2 := hcell i hlt
      have hzb : 0 ≤ Z i ∧ Z i < 256 := by
        have := HZ.out.2.2.2 i; simp [Lit.wf] at this; have q1 : IntKind.u8.min = 0 := rfl; have q2 : IntKind.u8.max = 255 := rfl; omega
      clear hcell
      have hrr : Z i % 4 = 0 ∨ Z i % 4 = 1 ∨ Z i % 4 = 2 ∨ Z i % 4 = 3 := by omega
      obtain ⟨hz0, hz1⟩ := hzb
      rename World => wr
      rcases hrr with hr | hr | hr | hr
      · go_wp2_with fail
        refine (dot9 wr (E + 1) k T b hit HL.out.2.2.2 HL.out.2.2.1).mono ?_
        rintro e w6 hN
        obtain ⟨b', rfl, y0, y1, y2, y3, hL⟩ := Lo.next HL.out.1 HL.out.2.1 HE.out hN
        have HL6 := Lib.hid hL
        clear hN hL hr
        go_simp
        go_wp2_with fail
        go_roundw
        case rel => exact ⟨i + 1, b', 195, hit, by omega, rfl, by go_num, HL6.out⟩
        case measure => simp [intOf]; omega
      · go_wp2_with fail
        refine (str10 wr (E + 1) k T b hit HL.out.2.2.2 HL.out.2.2.1).mono ?_
        rintro e w6 hN
        obtain ⟨b', rfl, y0, y1, y2, y3, hL⟩ := Lo.next HL.out.1 HL.out.2.1 HE.out hN
        have HL6 := Lib.hid hL
        clear hN hL hr
        go_simp
        go_wp2_with fail
        go_roundw
        case rel => exact ⟨i + 1, b', 199, hit, by omega, rfl, by go_num, HL6.out⟩
        case measure => simp [intOf]; omega
      · go_wp2_with fail
        refine (one11 wr (E + 1) k T b HL.out.2.2.2).mono ?_
        rintro e w6 hN
        obtain ⟨b', rfl, y0, y1, y2, y3, hL⟩ := Lo.next HL.out.1 HL.out.2.1 HE.out hN
        have HL6 := Lib.hid hL
        clear hN hL hr
        go_simp
        go_wp2_with fail
        go_roundw
        case rel => exact ⟨i + 1, b', 199, false, by omega, rfl, by go_num, HL6.out⟩
        case measure => simp [intOf]; omega
      · go_wp2_with fail
        refine (call12 wr (E + 1) k T b HL.out.2.2.2).mono ?_
        rintro e w6 hN
        obtain ⟨b', rfl, y0, y1, y2, y3, hL⟩ := Lo.next HL.out.1 HL.out.2.1 HE.out hN
        have HL6 := Lib.hid hL
        clear hN hL hr
        go_simp
        go_wp2_with fail
        go_roundw
        case rel => exact ⟨i + 1, b', 205, false, by omega, rfl, by go_num, HL6.out⟩
        case measure => simp [intOf]; omega
    · obtain rfl : i = sn := by omega
      go_wp2_with fail
      rename World => wr
      refine (ig13 wr g SB n k (E + 1) b T false hit none U 0 (fun _ => none) HL.out.1.1 HF.out.2.2.2 hn6 HC.out HL.out.2.2.1).mono ?_
      rintro e w6 hI
      have hFi := Fi.of HL.out.1 hI
      obtain ⟨rfl, _, _⟩ := hI
      have HFi := Lib.hid hFi
      clear hFi HL x0 x1 hlt
      cases hit
      · have HG : Hid (Fi w' w6 g SB n k w1.heap.size (w1.heap.size + 1) false none U 0 (fun _ => none)) := Lib.hid HFi.out
        clear HFi
        go_simp
        go_wp2_with fail
        refine (syms14 w6 g SB n false none U 0 (fun _ => none) HG.out.ps).mono ?_
        rintro e w7 ⟨rfl, rfl⟩
        have hnn : ((n : Int) != (n : Int)) = false := by simp
        go_simp
        go_wp2_with fail
        go_loop [28] (fun j => ∃ q : Nat, q ≤ n ∧ j = .int .i64 q) (fun j => n - (intOf j).toNat)
        case atStart => exact ⟨0, by omega, rfl⟩
        case round =>
          obtain ⟨q, hq, rfl⟩ := hrel
          by_cases hqn : q < n
          · obtain ⟨bb, off, rfl, hcell⟩ := (HU.out.2.2.1.below HG.out.bel) (by omega)
            have e2 : _ = some (Value.int .u32 (U q)) := hcell q hqn
            have e3 := HG.out.ps.col q hqn
            clear hcell
            have hx : (U q != U q) = false := by simp
            go_wp2_with fail
            go_round
            case rel => exact ⟨q + 1, by omega, by go_num⟩
            case measure => simp [intOf]; omega
          · obtain rfl : q = n := by omega
            go_wp2_with fail
            go_ret
            exact ⟨rfl, HG.out.bel⟩
      · have HG : Hid (Fi w' w6 g SB n k w1.heap.size (w1.heap.size + 1) false none (updI U k (dec (U k))) 0 (fun _ => none)) := Lib.hid HFi.out
        clear HFi
        go_simp
        go_wp2_with fail
        refine (syms14 w6 g SB n false none (updI U k (dec (U k))) 0 (fun _ => none) HG.out.ps).mono ?_
        rintro e w7 ⟨rfl, rfl⟩
        have hnn : ((n : Int) != (n : Int)) = false := by simp
        go_simp
        go_wp2_with fail
        obtain ⟨y, hy⟩ : ∃ y, (U k - 1) % 4294967296 = y := ⟨_, rfl⟩
        have HY := Lib.hid hy
        clear hy
        go_loop [28] (fun j => ∃ q : Nat, q ≤ n ∧ j = .int .i64 q) (fun j => n - (intOf j).toNat)
        case atStart => exact ⟨0, by omega, rfl⟩
        case round =>
          obtain ⟨q, hq, rfl⟩ := hrel
          by_cases hqn : q < n
          · obtain ⟨bb, off, rfl, hcell⟩ := (HU.out.2.2.1.below HG.out.bel) (by omega)
            have e2 : _ = some (Value.int .u32 (U q)) := hcell q hqn
            have e3 := HG.out.ps.col q hqn
            clear hcell
            by_cases hqk : q = k
            · subst hqk
              have hy := HY.out
              have hu : updI U q (dec (U q)) q = y := by unfold updI; rw [if_pos rfl]; exact HY.out
              rw [hu] at e3
              have hx : (y != y) = false := by simp
              have hx2 : ((q : Int) == (q : Int)) = true := by simp
              clear hu
              go_wp2_with fail
              go_round
              case rel => exact ⟨q + 1, by omega, by go_num⟩
              case measure => simp [intOf]; omega
            · have hu : updI U k (dec (U k)) q = U q := by unfold updI; rw [if_neg hqk]
              rw [hu] at e3
              have hx : (U q != U q) = false := by simp
              have hx2 : ((q : Int) == (k : Int)) = false := by simp; omega
              clear hu hqk
              go_wp2_with fail
              go_round
              case rel => exact ⟨q + 1, by omega, by go_num⟩
              case measure => simp [intOf]; omega
          · obtain rfl : q = n := by omega
            go_wp2_with fail
            go_ret
            exact ⟨rfl, HG.out.bel⟩
end Go.Proofs.Ytomgcoggplaklaa.ch
