/-
  Chains of expressions: the law, walked.
-/
import Derived.Test.YtomgcoggplaklaaLb
namespace Go.Proofs.Ytomgcoggplaklaa.ch
open Go.ChangeShapes Go.WideShapes Go.ChangeAt Go.RowKit Go.Deep Go.Proofs.Ytomgcoggplaklaa.mk
set_option linter.unusedVariables false
set_option linter.unusedSimpArgs false
set_option maxRecDepth 100000 in
set_option maxHeartbeats 8000000 in
theorem law_q_false_true (w : World) (a0 : Option Addr) (n cap0 : Nat) (U : Nat → Int) (k : Int) (a2 : Option Addr) (sn cap2 : Nat) (Z : Nat → Int) (pc : Int) (h0 : IsInts .u32 w a0 n cap0 U) (h2 : IsInts .u8 w a2 sn cap2 Z) :
    Calls Try.prog 3 #[.slice a0 n cap0, .int .i64 k, .slice a2 sn cap2, .bool false, .bool true, .bool true, .bool true, .int .u32 pc] w (LawP w) := by
  have HU := Lib.hid h0
  have HZ := Lib.hid h2
  clear h0 h2
  go_enter Try.func3, Try.ntmps3
  go_wp2_with fail
  refine (bytes4 w a0 n cap0 k a2 sn cap2 false true true true pc).mono ?_
  rintro e w' ⟨rfl, rfl | ⟨rfl, hb1, hb2⟩⟩
  · go_simp
    go_wp2_with fail
    go_ret
    exact ⟨rfl, Below.refl _ _⟩
  by_cases t1 : decide ((1048576 : Int) < (n : Int) * 4 + (sn : Int)) = true
  · go_simp
    go_wp2_with fail
    go_ret
    exact ⟨rfl, Below.refl _ _⟩
  replace t1 : decide ((1048576 : Int) < (n : Int) * 4 + (sn : Int)) = false := by simpa using t1
  by_cases t2 : ((n : Int) == 0) = true
  · go_simp
    go_wp2_with fail
    go_ret
    exact ⟨rfl, Below.refl _ _⟩
  replace t2 : ((n : Int) == 0) = false := by simpa using t2
  by_cases t3 : decide ((65536 : Int) < (n : Int)) = true
  · go_simp
    go_wp2_with fail
    go_ret
    exact ⟨rfl, Below.refl _ _⟩
  replace t3 : decide ((65536 : Int) < (n : Int)) = false := by simpa using t3
  by_cases t4 : decide ((65536 : Int) < (sn : Int)) = true
  · go_simp
    go_wp2_with fail
    go_ret
    exact ⟨rfl, Below.refl _ _⟩
  replace t4 : decide ((65536 : Int) < (sn : Int)) = false := by simpa using t4
  by_cases t5 : decide (k < 0) = true
  · go_simp
    go_wp2_with fail
    go_ret
    exact ⟨rfl, Below.refl _ _⟩
  replace t5 : decide (k < 0) = false := by simpa using t5
  obtain ⟨k, rfl⟩ : ∃ q : Nat, k = q := ⟨k.toNat, by have := of_decide_eq_false t5; omega⟩
  by_cases t6 : decide (n ≤ k) = true
  · have t7 : decide ((n : Int) ≤ (k : Int)) = true := by simpa using t6
    go_simp
    go_wp2_with fail
    go_ret
    exact ⟨rfl, Below.refl _ _⟩
  replace t6 : decide (n ≤ k) = false := by simpa using t6
  have t7 : decide ((n : Int) ≤ (k : Int)) = false := by simpa using t6
  have HF : Hid (1 ≤ n ∧ n ≤ 65536 ∧ sn ≤ 65536 ∧ k < n) := Lib.hid (by
    have e2 : ¬ (n : Int) = 0 := by simpa using t2
    have e3 := of_decide_eq_false t3
    have e4 := of_decide_eq_false t4
    have e6 := of_decide_eq_false t6
    omega)
  go_simp
  go_wp2_with fail
  refine (syms5 w' a0 n cap0 U HF.out.2.1 HU.out.2.2.1).mono ?_
  rintro e w1 ⟨SB, rfl, hSB1, hSB2, hcol, hfrz, hB1⟩
  have HB2 : Hid (Bs w' ((w1.alloc (.cells #[.int .u32 0, .int .u32 k] 29)).alloc (.cells #[.int .u32 7, .int .u32 k] 29)) SB n k w1.heap.size (w1.heap.size + 1) U) := Lib.hid (Bs.start hcol hfrz hSB1 hSB2 hB1)
  have hn6 := HF.out.2.1
  have hsn6 : sn ≤ 65536 := HF.out.2.2.1
  have hkn : k ≤ 65536 := by have := HF.out; omega
  clear hcol hfrz hB1 hSB1 hb1 hb2 hSB2
  have hmm := fun (w : World) => run_makeMap (P := Try.prog) 31 w
  generalize hw2 : ((w1.alloc (.cells #[.int .u32 0, .int .u32 k] 29)).alloc (.cells #[.int .u32 7, .int .u32 k] 29)) = w2 at *
  have hO1 := HB2.out.o0
  have hO2 := HB2.out.o1
  have hOl := HB2.out.s3
  have hTl : w1.heap.size < w2.heap.size := by omega
  obtain ⟨w4, hup, hM4, hO4⟩ := (MapIs.made w2 RefKey).put (refKey _) Try.underlying31 (ref_key 7 k) v5
  simp only [ref, v5] at hup
  have HM4 : Hid (MapIs w4 w2.heap.size RefKey 1 (M1 k)) := Lib.hid hM4
  have HB4 : Hid (Bs w' w4 SB n k w1.heap.size (w1.heap.size + 1) U) := Lib.hid ((HB2.out.below ((Below.refl _ _).alloc (Nat.le_refl _) (.map #[] 0))).only hOl hO4)
  have hT1 := HB4.out.t0
  have hT2 := HB4.out.t1
  have hs4 : w4.heap.size = w2.heap.size + 1 := by rw [hO4.size]; simp
  have HS4 := Lib.hid hs4
  clear hM4 hO4 hs4
  obtain ⟨w5, hup2, hM5, hO5⟩ := HM4.out.put (refKey _) Try.underlying31 (ref_key 0 k) (.agg #[.int .u32 pc])
  simp only [ref] at hup2
  have HM5 : Hid (MapIs w5 w2.heap.size RefKey 2 (M2 k pc)) := Lib.hid (by rw [M1_target] at hM5; exact hM5)
  have HB5 : Hid (Bs w' w5 SB n k w1.heap.size (w1.heap.size + 1) U) := Lib.hid (HB4.out.only hOl hO5)
  have hs5 : w5.heap.size = w2.heap.size + 1 := by rw [hO5.size, HS4.out]
  have HS5 := Lib.hid hs5
  clear hM5 hO5 hs5
  go_simp
  go_wp2_with fail
  have HBP := Lib.hid (HB5.out.below ((Below.refl _ _).alloc (Nat.le_refl _) (.cells #[.slice none 0 0, .slice none 0 0, .slice none 0 0, .slice none 0 0, .map (some w2.heap.size), .map none, .map none, .slice none 0 0, .bool false, .bool false, .bool false] 41)))
  refine (new6 _ (some ⟨SB, 0, none⟩) n n (some ⟨w5.heap.size, 0, none⟩) true).mono ?_
  rintro e wP hN
  obtain ⟨g, rfl, hA⟩ := Al.mk1 HBP.out (cell_of_row _ _ 4 _ _ _ (heap_alloc_new w5 _)) (HM5.out.alloc _) (by have := HS5.out; omega) hOl (by have := HS5.out; omega) hN
  have HA := Lib.hid hA
  clear hN hA HBP HB2 HB4 HM4 HB5 HM5 hup2 hup hT1 hT2 hO1 hO2 hw2 hmm hOl hTl
  have HC : Hid (Counts (M2 k pc)) := Lib.hid (counts2 k pc)
  have HE : Hid (g < wP.heap.size ∧ ∀ p : Nat × Nat, (some (w5.heap.size, w2.heap.size)) = some p → p.1 < wP.heap.size ∧ p.2 < wP.heap.size) := Lib.hid HA.out.lts
  have HA1 : Hid (Al w' (wP.alloc (.cells #[.nilIface, .int .i32 0] 49)) g SB n k w1.heap.size (w1.heap.size + 1) true (some (w5.heap.size, w2.heap.size)) U 2 (M2 k pc)) := Lib.hid (HA.out.keep HE.out ((Below.refl _ _).alloc (Nat.le_refl _) _))
  have HX1 : Hid ((wP.alloc (.cells #[.nilIface, .int .i32 0] 49)).heap[wP.heap.size]? = some (.cells #[.nilIface, .int .i32 0] 49 (0, 0))) := Lib.hid (heap_alloc_new wP _)
  have HES : Hid (wP.heap.size + 1 ≤ (wP.alloc (.cells #[.nilIface, .int .i32 0] 49)).heap.size) := Lib.hid (by simp)
  have hT1 := HA1.out.2.1.t0
  have hT2 := HA1.out.2.1.t1
  go_simp
  go_wp2_with fail
  generalize wP.alloc (.cells #[.nilIface, .int .i32 0] 49) = wQ at *
  generalize wP.heap.size = E at *
  refine (num8 wQ (E + 1) k HES.out).mono ?_
  rintro e w3 hN
  obtain ⟨b, rfl, y0, y1, y2, y3, hL⟩ := Lo.next HA1.out HX1.out HE.out hN
  have HL0 := Lib.hid hL
  clear hN hL HA HA1 HX1 HES hT1 hT2
  go_simp
  go_wp2_with fail
  clear y0 y1 y2 y3
  go_loopw [24, 25] (fun q j wr => ∃ (i b T : Nat) (hit : Bool), i ≤ sn ∧ q = .bool hit ∧ j = .int .i64 i ∧ Lo w' wr g SB n k w1.heap.size (w1.heap.size + 1) true (some (w5.heap.size, w2.heap.size)) U 2 (M2 k pc) E hit T b) (fun _ j _ => sn - (intOf j).toNat)
  case atStart => exact ⟨0, b, _, false, by omega, rfl, rfl, HL0.out⟩
  case round =>
    clear HL0
    obtain ⟨i, b, T, hit, hi, rfl, rfl, hL⟩ := hrel
    have HL := Lib.hid hL
    have x0 := cell_of_row _ _ 0 _ _ _ hL.2.1
    have x1 := cell_of_row _ _ 1 _ _ _ hL.2.1
    simp only [List.getElem?_toArray, List.getElem?_cons_zero, List.getElem?_cons_succ] at x0 x1
    clear hL
    by_cases hlt : i < sn
    · obtain ⟨bb, off, rfl, hcell⟩ := (HZ.out.2.2.1.below HL.out.1.2.1.bel) (by omega)
      have e2 := hcell i hlt
      have hzb : 0 ≤ Z i ∧ Z i < 256 := by
        have := HZ.out.2.2.2 i; simp [Lit.wf] at this; have q1 : IntKind.u8.min = 0 := rfl; have q2 : IntKind.u8.max = 255 := rfl; omega
      clear hcell
      have hrr : Z i % 4 = 0 ∨ Z i % 4 = 1 ∨ Z i % 4 = 2 ∨ Z i % 4 = 3 := by omega
      obtain ⟨hz0, hz1⟩ := hzb
      rename World => wr
      rcases hrr with hr | hr | hr | hr
      · go_wp2_with fail
        refine (dot9 wr (E + 1) k T b hit HL.out.2.2.2 HL.out.2.2.1).mono ?_
        rintro e w6 hN
        obtain ⟨b', rfl, y0, y1, y2, y3, hL⟩ := Lo.next HL.out.1 HL.out.2.1 HE.out hN
        have HL6 := Lib.hid hL
        clear hN hL hr
        go_simp
        go_wp2_with fail
        go_roundw
        case rel => exact ⟨i + 1, b', 195, hit, by omega, rfl, by go_num, HL6.out⟩
        case measure => simp [intOf]; omega
      · go_wp2_with fail
        refine (str10 wr (E + 1) k T b hit HL.out.2.2.2 HL.out.2.2.1).mono ?_
        rintro e w6 hN
        obtain ⟨b', rfl, y0, y1, y2, y3, hL⟩ := Lo.next HL.out.1 HL.out.2.1 HE.out hN
        have HL6 := Lib.hid hL
        clear hN hL hr
        go_simp
        go_wp2_with fail
        go_roundw
        case rel => exact ⟨i + 1, b', 199, hit, by omega, rfl, by go_num, HL6.out⟩
        case measure => simp [intOf]; omega
      · go_wp2_with fail
        refine (one11 wr (E + 1) k T b HL.out.2.2.2).mono ?_
        rintro e w6 hN
        obtain ⟨b', rfl, y0, y1, y2, y3, hL⟩ := Lo.next HL.out.1 HL.out.2.1 HE.out hN
        have HL6 := Lib.hid hL
        clear hN hL hr
        go_simp
        go_wp2_with fail
        go_roundw
        case rel => exact ⟨i + 1, b', 199, false, by omega, rfl, by go_num, HL6.out⟩
        case measure => simp [intOf]; omega
      · go_wp2_with fail
        refine (call12 wr (E + 1) k T b HL.out.2.2.2).mono ?_
        rintro e w6 hN
        obtain ⟨b', rfl, y0, y1, y2, y3, hL⟩ := Lo.next HL.out.1 HL.out.2.1 HE.out hN
        have HL6 := Lib.hid hL
        clear hN hL hr
        go_simp
        go_wp2_with fail
        go_roundw
        case rel => exact ⟨i + 1, b', 205, false, by omega, rfl, by go_num, HL6.out⟩
        case measure => simp [intOf]; omega
    · obtain rfl : i = sn := by omega
      go_wp2_with fail
      rename World => wr
      refine (ig13 wr g SB n k (E + 1) b T true hit (some (w5.heap.size, w2.heap.size)) U 2 (M2 k pc) HL.out.1.1 HF.out.2.2.2 hn6 HC.out HL.out.2.2.1).mono ?_
      rintro e w6 hI
      have hFi := Fi.of HL.out.1 hI
      obtain ⟨rfl, _, _⟩ := hI
      have HFi := Lib.hid hFi
      clear hFi HL x0 x1 hlt
      cases hit
      · have HG : Hid (Fi w' w6 g SB n k w1.heap.size (w1.heap.size + 1) true (some (w5.heap.size, w2.heap.size)) U 2 (M2 k pc)) := Lib.hid HFi.out
        clear HFi
        go_simp
        go_wp2_with fail
        refine (syms14 w6 g SB n true (some (w5.heap.size, w2.heap.size)) U 2 (M2 k pc) HG.out.ps).mono ?_
        rintro e w7 ⟨rfl, rfl⟩
        have hnn : ((n : Int) != (n : Int)) = false := by simp
        go_simp
        go_wp2_with fail
        go_loop [28] (fun j => ∃ q : Nat, q ≤ n ∧ j = .int .i64 q) (fun j => n - (intOf j).toNat)
        case atStart => exact ⟨0, by omega, rfl⟩
        case round =>
          obtain ⟨q, hq, rfl⟩ := hrel
          by_cases hqn : q < n
          · obtain ⟨bb, off, rfl, hcell⟩ := (HU.out.2.2.1.below HG.out.bel) (by omega)
            have e2 : _ = some (Value.int .u32 (U q)) := hcell q hqn
            have e3 := HG.out.ps.col q hqn
            clear hcell
            have hx : (U q != U q) = false := by simp
            go_wp2_with fail
            go_round
            case rel => exact ⟨q + 1, by omega, by go_num⟩
            case measure => simp [intOf]; omega
          · obtain rfl : q = n := by omega
            obtain ⟨f1, f2, f3⟩ : (M2 k pc) (ref 7 k) = some v5 ∧ (M2 k pc) (ref 0 k) = (some (.agg #[.int .u32 pc])) ∧ 2 = 2 := ⟨M2_other k pc, M2_target k pc, rfl⟩
            have hm1 := (HG.out.ps.mp _ rfl).1
            have hm2 := (HG.out.ps.mp _ rfl).2.1
            simp only at hm1 hm2
            rw [f3] at hm2
            have o0 := HG.out.o0
            have o1 := HG.out.o1
            have q0 := HG.out.t0
            have q1 := HG.out.t1
            have hOl : w1.heap.size + 1 < w7.heap.size := block_lt_of_cell o0
            have hTl : w1.heap.size < w7.heap.size := block_lt_of_cell q0
            have hPl : w5.heap.size < w7.heap.size := block_lt_of_cell hm1
            have la := look2 (show MapIs w7.drew w2.heap.size RefKey 2 (M2 k pc) from hm2) 7 k _ f1
            have lb := look2 (show MapIs ((w7.alloc (.cells #[.int .u32 0] 33)).drew) w2.heap.size RefKey 2 (M2 k pc) from hm2.alloc _) 7 k _ f1
            simp only [v5, Option.getD_some, Option.isSome_some] at la lb
            have HM2 := Lib.hid hm2
            have HF2 := Lib.hid f2
            clear hm2 f1 f2 f3
            go_wp2_with fail
            go_region
            all_goals
              clear la lb
              have HM8 : Hid (MapIs ((w7.alloc (.cells #[.int .u32 5] 33)).drew) w2.heap.size RefKey 2 (M2 k pc)) := Lib.hid (HM2.out.alloc _)
              have HB8 : Hid (Below w'.heap.size w' ((w7.alloc (.cells #[.int .u32 5] 33)).drew)) := Lib.hid ((HG.out.bel.alloc HG.out.bel.size _).trans ⟨rfl, rfl, rfl, Nat.le_refl _, fun _ _ => rfl⟩)
              have r5 : ((w7.alloc (.cells #[.int .u32 5] 33)).drew).cell? ⟨w7.heap.size, 0, none⟩ = some (.int .u32 5) := by go_simp
              have n1 : ((w7.alloc (.cells #[.int .u32 5] 33)).drew).cell? ⟨w5.heap.size, 4, none⟩ = some (.map (some w2.heap.size)) := by go_simp
              have n2 : ((w7.alloc (.cells #[.int .u32 5] 33)).drew).cell? ⟨w1.heap.size, 0, none⟩ = some (.int .u32 0) := by go_simp
              have n3 : ((w7.alloc (.cells #[.int .u32 5] 33)).drew).cell? ⟨w1.heap.size, 1, none⟩ = some (.int .u32 k) := by go_simp
              clear hm1 o0 o1 q0 q1 hOl hTl hPl
              generalize ((w7.alloc (.cells #[.int .u32 5] 33)).drew) = w8 at *
              generalize w7.heap.size = R1 at *
              have hR1 : R1 < w8.heap.size := block_lt_of_cell r5
              have hTl : w1.heap.size < w8.heap.size := block_lt_of_cell n2
              have hPl : w5.heap.size < w8.heap.size := block_lt_of_cell n1
              have la := look2 (show MapIs w8.drew w2.heap.size RefKey 2 (M2 k pc) from HM8.out) 0 k _ HF2.out
              have lb := look2 (show MapIs ((w8.alloc (.cells #[.int .u32 0] 33)).drew) w2.heap.size RefKey 2 (M2 k pc) from HM8.out.alloc _) 0 k _ HF2.out
              simp only [Option.getD_some, Option.isSome_some, Option.getD_none, Option.isSome_none] at la lb
              go_wp2_with fail
              go_region
              all_goals
                clear la lb n2 n3 r5
                have HM9 : Hid (MapIs ((w8.alloc (.cells #[.int .u32 pc] 33)).drew) w2.heap.size RefKey 2 (M2 k pc)) := Lib.hid (HM8.out.alloc _)
                have HB9 : Hid (Below w'.heap.size w' ((w8.alloc (.cells #[.int .u32 pc] 33)).drew)) := Lib.hid ((HB8.out.alloc HB8.out.size _).trans ⟨rfl, rfl, rfl, Nat.le_refl _, fun _ _ => rfl⟩)
                have r6 : ((w8.alloc (.cells #[.int .u32 pc] 33)).drew).cell? ⟨w8.heap.size, 0, none⟩ = some (.int .u32 pc) := by go_simp
                have n4 : ((w8.alloc (.cells #[.int .u32 pc] 33)).drew).cell? ⟨w5.heap.size, 4, none⟩ = some (.map (some w2.heap.size)) := by go_simp
                have hlen := fun ty => HM9.out.len Try.underlying31 ty
                generalize ((w8.alloc (.cells #[.int .u32 pc] 33)).drew) = w9 at *
                generalize w8.heap.size = R2 at *
                clear n1
                have hpc : (pc != pc) = false := by simp
                go_wp2_with fail
                go_ret
                exact ⟨rfl, HB9.out⟩
      · have HG : Hid (Fi w' w6 g SB n k w1.heap.size (w1.heap.size + 1) true (some (w5.heap.size, w2.heap.size)) U 2 (M2 k pc)) := Lib.hid HFi.out
        clear HFi
        go_simp
        go_wp2_with fail
        refine (syms14 w6 g SB n true (some (w5.heap.size, w2.heap.size)) U 2 (M2 k pc) HG.out.ps).mono ?_
        rintro e w7 ⟨rfl, rfl⟩
        have hnn : ((n : Int) != (n : Int)) = false := by simp
        go_simp
        go_wp2_with fail
        go_loop [28] (fun j => ∃ q : Nat, q ≤ n ∧ j = .int .i64 q) (fun j => n - (intOf j).toNat)
        case atStart => exact ⟨0, by omega, rfl⟩
        case round =>
          obtain ⟨q, hq, rfl⟩ := hrel
          by_cases hqn : q < n
          · obtain ⟨bb, off, rfl, hcell⟩ := (HU.out.2.2.1.below HG.out.bel) (by omega)
            have e2 : _ = some (Value.int .u32 (U q)) := hcell q hqn
            have e3 := HG.out.ps.col q hqn
            clear hcell
            have hx : (U q != U q) = false := by simp
            go_wp2_with fail
            go_round
            case rel => exact ⟨q + 1, by omega, by go_num⟩
            case measure => simp [intOf]; omega
          · obtain rfl : q = n := by omega
            obtain ⟨f1, f2, f3⟩ : (M2 k pc) (ref 7 k) = some v5 ∧ (M2 k pc) (ref 0 k) = (some (.agg #[.int .u32 pc])) ∧ 2 = 2 := ⟨M2_other k pc, M2_target k pc, rfl⟩
            have hm1 := (HG.out.ps.mp _ rfl).1
            have hm2 := (HG.out.ps.mp _ rfl).2.1
            simp only at hm1 hm2
            rw [f3] at hm2
            have o0 := HG.out.o0
            have o1 := HG.out.o1
            have q0 := HG.out.t0
            have q1 := HG.out.t1
            have hOl : w1.heap.size + 1 < w7.heap.size := block_lt_of_cell o0
            have hTl : w1.heap.size < w7.heap.size := block_lt_of_cell q0
            have hPl : w5.heap.size < w7.heap.size := block_lt_of_cell hm1
            have la := look2 (show MapIs w7.drew w2.heap.size RefKey 2 (M2 k pc) from hm2) 7 k _ f1
            have lb := look2 (show MapIs ((w7.alloc (.cells #[.int .u32 0] 33)).drew) w2.heap.size RefKey 2 (M2 k pc) from hm2.alloc _) 7 k _ f1
            simp only [v5, Option.getD_some, Option.isSome_some] at la lb
            have HM2 := Lib.hid hm2
            have HF2 := Lib.hid f2
            clear hm2 f1 f2 f3
            go_wp2_with fail
            go_region
            all_goals
              clear la lb
              have HM8 : Hid (MapIs ((w7.alloc (.cells #[.int .u32 5] 33)).drew) w2.heap.size RefKey 2 (M2 k pc)) := Lib.hid (HM2.out.alloc _)
              have HB8 : Hid (Below w'.heap.size w' ((w7.alloc (.cells #[.int .u32 5] 33)).drew)) := Lib.hid ((HG.out.bel.alloc HG.out.bel.size _).trans ⟨rfl, rfl, rfl, Nat.le_refl _, fun _ _ => rfl⟩)
              have r5 : ((w7.alloc (.cells #[.int .u32 5] 33)).drew).cell? ⟨w7.heap.size, 0, none⟩ = some (.int .u32 5) := by go_simp
              have n1 : ((w7.alloc (.cells #[.int .u32 5] 33)).drew).cell? ⟨w5.heap.size, 4, none⟩ = some (.map (some w2.heap.size)) := by go_simp
              have n2 : ((w7.alloc (.cells #[.int .u32 5] 33)).drew).cell? ⟨w1.heap.size, 0, none⟩ = some (.int .u32 0) := by go_simp
              have n3 : ((w7.alloc (.cells #[.int .u32 5] 33)).drew).cell? ⟨w1.heap.size, 1, none⟩ = some (.int .u32 k) := by go_simp
              clear hm1 o0 o1 q0 q1 hOl hTl hPl
              generalize ((w7.alloc (.cells #[.int .u32 5] 33)).drew) = w8 at *
              generalize w7.heap.size = R1 at *
              have hR1 : R1 < w8.heap.size := block_lt_of_cell r5
              have hTl : w1.heap.size < w8.heap.size := block_lt_of_cell n2
              have hPl : w5.heap.size < w8.heap.size := block_lt_of_cell n1
              have la := look2 (show MapIs w8.drew w2.heap.size RefKey 2 (M2 k pc) from HM8.out) 0 k _ HF2.out
              have lb := look2 (show MapIs ((w8.alloc (.cells #[.int .u32 0] 33)).drew) w2.heap.size RefKey 2 (M2 k pc) from HM8.out.alloc _) 0 k _ HF2.out
              simp only [Option.getD_some, Option.isSome_some, Option.getD_none, Option.isSome_none] at la lb
              go_wp2_with fail
              go_region
              all_goals
                clear la lb n2 n3 r5
                have HM9 : Hid (MapIs ((w8.alloc (.cells #[.int .u32 pc] 33)).drew) w2.heap.size RefKey 2 (M2 k pc)) := Lib.hid (HM8.out.alloc _)
                have HB9 : Hid (Below w'.heap.size w' ((w8.alloc (.cells #[.int .u32 pc] 33)).drew)) := Lib.hid ((HB8.out.alloc HB8.out.size _).trans ⟨rfl, rfl, rfl, Nat.le_refl _, fun _ _ => rfl⟩)
                have r6 : ((w8.alloc (.cells #[.int .u32 pc] 33)).drew).cell? ⟨w8.heap.size, 0, none⟩ = some (.int .u32 pc) := by go_simp
                have n4 : ((w8.alloc (.cells #[.int .u32 pc] 33)).drew).cell? ⟨w5.heap.size, 4, none⟩ = some (.map (some w2.heap.size)) := by go_simp
                have hlen := fun ty => HM9.out.len Try.underlying31 ty
                generalize ((w8.alloc (.cells #[.int .u32 pc] 33)).drew) = w9 at *
                generalize w8.heap.size = R2 at *
                clear n1
                have hpc : (pc != pc) = false := by simp
                go_wp2_with fail
                go_ret
                exact ⟨rfl, HB9.out⟩
set_option maxRecDepth 100000 in
set_option maxHeartbeats 8000000 in
theorem law_q_false_false (w : World) (a0 : Option Addr) (n cap0 : Nat) (U : Nat → Int) (k : Int) (a2 : Option Addr) (sn cap2 : Nat) (Z : Nat → Int) (pc : Int) (h0 : IsInts .u32 w a0 n cap0 U) (h2 : IsInts .u8 w a2 sn cap2 Z) :
    Calls Try.prog 3 #[.slice a0 n cap0, .int .i64 k, .slice a2 sn cap2, .bool false, .bool false, .bool true, .bool true, .int .u32 pc] w (LawP w) := by
  have HU := Lib.hid h0
  have HZ := Lib.hid h2
  clear h0 h2
  go_enter Try.func3, Try.ntmps3
  go_wp2_with fail
  refine (bytes4 w a0 n cap0 k a2 sn cap2 false false true true pc).mono ?_
  rintro e w' ⟨rfl, rfl | ⟨rfl, hb1, hb2⟩⟩
  · go_simp
    go_wp2_with fail
    go_ret
    exact ⟨rfl, Below.refl _ _⟩
  by_cases t1 : decide ((1048576 : Int) < (n : Int) * 4 + (sn : Int)) = true
  · go_simp
    go_wp2_with fail
    go_ret
    exact ⟨rfl, Below.refl _ _⟩
  replace t1 : decide ((1048576 : Int) < (n : Int) * 4 + (sn : Int)) = false := by simpa using t1
  by_cases t2 : ((n : Int) == 0) = true
  · go_simp
    go_wp2_with fail
    go_ret
    exact ⟨rfl, Below.refl _ _⟩
  replace t2 : ((n : Int) == 0) = false := by simpa using t2
  by_cases t3 : decide ((65536 : Int) < (n : Int)) = true
  · go_simp
    go_wp2_with fail
    go_ret
    exact ⟨rfl, Below.refl _ _⟩
  replace t3 : decide ((65536 : Int) < (n : Int)) = false := by simpa using t3
  by_cases t4 : decide ((65536 : Int) < (sn : Int)) = true
  · go_simp
    go_wp2_with fail
    go_ret
    exact ⟨rfl, Below.refl _ _⟩
  replace t4 : decide ((65536 : Int) < (sn : Int)) = false := by simpa using t4
  by_cases t5 : decide (k < 0) = true
  · go_simp
    go_wp2_with fail
    go_ret
    exact ⟨rfl, Below.refl _ _⟩
  replace t5 : decide (k < 0) = false := by simpa using t5
  obtain ⟨k, rfl⟩ : ∃ q : Nat, k = q := ⟨k.toNat, by have := of_decide_eq_false t5; omega⟩
  by_cases t6 : decide (n ≤ k) = true
  · have t7 : decide ((n : Int) ≤ (k : Int)) = true := by simpa using t6
    go_simp
    go_wp2_with fail
    go_ret
    exact ⟨rfl, Below.refl _ _⟩
  replace t6 : decide (n ≤ k) = false := by simpa using t6
  have t7 : decide ((n : Int) ≤ (k : Int)) = false := by simpa using t6
  have HF : Hid (1 ≤ n ∧ n ≤ 65536 ∧ sn ≤ 65536 ∧ k < n) := Lib.hid (by
    have e2 : ¬ (n : Int) = 0 := by simpa using t2
    have e3 := of_decide_eq_false t3
    have e4 := of_decide_eq_false t4
    have e6 := of_decide_eq_false t6
    omega)
  go_simp
  go_wp2_with fail
  refine (syms5 w' a0 n cap0 U HF.out.2.1 HU.out.2.2.1).mono ?_
  rintro e w1 ⟨SB, rfl, hSB1, hSB2, hcol, hfrz, hB1⟩
  have HB2 : Hid (Bs w' ((w1.alloc (.cells #[.int .u32 0, .int .u32 k] 29)).alloc (.cells #[.int .u32 7, .int .u32 k] 29)) SB n k w1.heap.size (w1.heap.size + 1) U) := Lib.hid (Bs.start hcol hfrz hSB1 hSB2 hB1)
  have hn6 := HF.out.2.1
  have hsn6 : sn ≤ 65536 := HF.out.2.2.1
  have hkn : k ≤ 65536 := by have := HF.out; omega
  clear hcol hfrz hB1 hSB1 hb1 hb2 hSB2
  have hmm := fun (w : World) => run_makeMap (P := Try.prog) 31 w
  generalize hw2 : ((w1.alloc (.cells #[.int .u32 0, .int .u32 k] 29)).alloc (.cells #[.int .u32 7, .int .u32 k] 29)) = w2 at *
  have hO1 := HB2.out.o0
  have hO2 := HB2.out.o1
  have hOl := HB2.out.s3
  have hTl : w1.heap.size < w2.heap.size := by omega
  obtain ⟨w4, hup, hM4, hO4⟩ := (MapIs.made w2 RefKey).put (refKey _) Try.underlying31 (ref_key 7 k) v5
  simp only [ref, v5] at hup
  have HM4 : Hid (MapIs w4 w2.heap.size RefKey 1 (M1 k)) := Lib.hid hM4
  have HB4 : Hid (Bs w' w4 SB n k w1.heap.size (w1.heap.size + 1) U) := Lib.hid ((HB2.out.below ((Below.refl _ _).alloc (Nat.le_refl _) (.map #[] 0))).only hOl hO4)
  have hT1 := HB4.out.t0
  have hT2 := HB4.out.t1
  have hs4 : w4.heap.size = w2.heap.size + 1 := by rw [hO4.size]; simp
  have HS4 := Lib.hid hs4
  clear hM4 hO4 hs4
  obtain ⟨w5, hup2, hM5, hO5⟩ := HM4.out.put (refKey _) Try.underlying31 (ref_key 0 k) (.agg #[.int .u32 pc])
  simp only [ref] at hup2
  have HM5 : Hid (MapIs w5 w2.heap.size RefKey 2 (M2 k pc)) := Lib.hid (by rw [M1_target] at hM5; exact hM5)
  have HB5 : Hid (Bs w' w5 SB n k w1.heap.size (w1.heap.size + 1) U) := Lib.hid (HB4.out.only hOl hO5)
  have hs5 : w5.heap.size = w2.heap.size + 1 := by rw [hO5.size, HS4.out]
  have HS5 := Lib.hid hs5
  clear hM5 hO5 hs5
  go_simp
  go_wp2_with fail
  have HBP := Lib.hid (HB5.out.below ((Below.refl _ _).alloc (Nat.le_refl _) (.cells #[.slice none 0 0, .slice none 0 0, .slice none 0 0, .slice none 0 0, .map (some w2.heap.size), .map none, .map none, .slice none 0 0, .bool false, .bool false, .bool false] 41)))
  refine (new6 _ (some ⟨SB, 0, none⟩) n n (some ⟨w5.heap.size, 0, none⟩) false).mono ?_
  rintro e wP hN
  obtain ⟨g, rfl, hA⟩ := Al.mk1 HBP.out (cell_of_row _ _ 4 _ _ _ (heap_alloc_new w5 _)) (HM5.out.alloc _) (by have := HS5.out; omega) hOl (by have := HS5.out; omega) hN
  have HA := Lib.hid hA
  clear hN hA HBP HB2 HB4 HM4 HB5 HM5 hup2 hup hT1 hT2 hO1 hO2 hw2 hmm hOl hTl
  have HC : Hid (Counts (M2 k pc)) := Lib.hid (counts2 k pc)
  have HE : Hid (g < wP.heap.size ∧ ∀ p : Nat × Nat, (some (w5.heap.size, w2.heap.size)) = some p → p.1 < wP.heap.size ∧ p.2 < wP.heap.size) := Lib.hid HA.out.lts
  have HA1 : Hid (Al w' (wP.alloc (.cells #[.nilIface, .int .i32 0] 49)) g SB n k w1.heap.size (w1.heap.size + 1) false (some (w5.heap.size, w2.heap.size)) U 2 (M2 k pc)) := Lib.hid (HA.out.keep HE.out ((Below.refl _ _).alloc (Nat.le_refl _) _))
  have HX1 : Hid ((wP.alloc (.cells #[.nilIface, .int .i32 0] 49)).heap[wP.heap.size]? = some (.cells #[.nilIface, .int .i32 0] 49 (0, 0))) := Lib.hid (heap_alloc_new wP _)
  have HES : Hid (wP.heap.size + 1 ≤ (wP.alloc (.cells #[.nilIface, .int .i32 0] 49)).heap.size) := Lib.hid (by simp)
  have hT1 := HA1.out.2.1.t0
  have hT2 := HA1.out.2.1.t1
  go_simp
  go_wp2_with fail
  generalize wP.alloc (.cells #[.nilIface, .int .i32 0] 49) = wQ at *
  generalize wP.heap.size = E at *
  refine (num8 wQ (E + 1) k HES.out).mono ?_
  rintro e w3 hN
  obtain ⟨b, rfl, y0, y1, y2, y3, hL⟩ := Lo.next HA1.out HX1.out HE.out hN
  have HL0 := Lib.hid hL
  clear hN hL HA HA1 HX1 HES hT1 hT2
  go_simp
  go_wp2_with fail
  clear y0 y1 y2 y3
  go_loopw [24, 25] (fun q j wr => ∃ (i b T : Nat) (hit : Bool), i ≤ sn ∧ q = .bool hit ∧ j = .int .i64 i ∧ Lo w' wr g SB n k w1.heap.size (w1.heap.size + 1) false (some (w5.heap.size, w2.heap.size)) U 2 (M2 k pc) E hit T b) (fun _ j _ => sn - (intOf j).toNat)
  case atStart => exact ⟨0, b, _, false, by omega, rfl, rfl, HL0.out⟩
  case round =>
    clear HL0
    obtain ⟨i, b, T, hit, hi, rfl, rfl, hL⟩ := hrel
    have HL := Lib.hid hL
    have x0 := cell_of_row _ _ 0 _ _ _ hL.2.1
    have x1 := cell_of_row _ _ 1 _ _ _ hL.2.1
    simp only [List.getElem?_toArray, List.getElem?_cons_zero, List.getElem?_cons_succ] at x0 x1
    clear hL
    by_cases hlt : i < sn
    · obtain ⟨bb, off, rfl, hcell⟩ := (HZ.out.2.2.1.below HL.out.1.2.1.bel) (by omega)
      have e2 := hcell i hlt
      have hzb : 0 ≤ Z i ∧ Z i < 256 := by
        have := HZ.out.2.2.2 i; simp [Lit.wf] at this; have q1 : IntKind.u8.min = 0 := rfl; have q2 : IntKind.u8.max = 255 := rfl; omega
      clear hcell
      have hrr : Z i % 4 = 0 ∨ Z i % 4 = 1 ∨ Z i % 4 = 2 ∨ Z i % 4 = 3 := by omega
      obtain ⟨hz0, hz1⟩ := hzb
      rename World => wr
      rcases hrr with hr | hr | hr | hr
      · go_wp2_with fail
        refine (dot9 wr (E + 1) k T b hit HL.out.2.2.2 HL.out.2.2.1).mono ?_
        rintro e w6 hN
        obtain ⟨b', rfl, y0, y1, y2, y3, hL⟩ := Lo.next HL.out.1 HL.out.2.1 HE.out hN
        have HL6 := Lib.hid hL
        clear hN hL hr
        go_simp
        go_wp2_with fail
        go_roundw
        case rel => exact ⟨i + 1, b', 195, hit, by omega, rfl, by go_num, HL6.out⟩
        case measure => simp [intOf]; omega
      · go_wp2_with fail
        refine (str10 wr (E + 1) k T b hit HL.out.2.2.2 HL.out.2.2.1).mono ?_
        rintro e w6 hN
        obtain ⟨b', rfl, y0, y1, y2, y3, hL⟩ := Lo.next HL.out.1 HL.out.2.1 HE.out hN
        have HL6 := Lib.hid hL
        clear hN hL hr
        go_simp
        go_wp2_with fail
        go_roundw
        case rel => exact ⟨i + 1, b', 199, hit, by omega, rfl, by go_num, HL6.out⟩
        case measure => simp [intOf]; omega
      · go_wp2_with fail
        refine (one11 wr (E + 1) k T b HL.out.2.2.2).mono ?_
        rintro e w6 hN
        obtain ⟨b', rfl, y0, y1, y2, y3, hL⟩ := Lo.next HL.out.1 HL.out.2.1 HE.out hN
        have HL6 := Lib.hid hL
        clear hN hL hr
        go_simp
        go_wp2_with fail
        go_roundw
        case rel => exact ⟨i + 1, b', 199, false, by omega, rfl, by go_num, HL6.out⟩
        case measure => simp [intOf]; omega
      · go_wp2_with fail
        refine (call12 wr (E + 1) k T b HL.out.2.2.2).mono ?_
        rintro e w6 hN
        obtain ⟨b', rfl, y0, y1, y2, y3, hL⟩ := Lo.next HL.out.1 HL.out.2.1 HE.out hN
        have HL6 := Lib.hid hL
        clear hN hL hr
        go_simp
        go_wp2_with fail
        go_roundw
        case rel => exact ⟨i + 1, b', 205, false, by omega, rfl, by go_num, HL6.out⟩
        case measure => simp [intOf]; omega
    · obtain rfl : i = sn := by omega
      go_wp2_with fail
      rename World => wr
      refine (ig13 wr g SB n k (E + 1) b T false hit (some (w5.heap.size, w2.heap.size)) U 2 (M2 k pc) HL.out.1.1 HF.out.2.2.2 hn6 HC.out HL.out.2.2.1).mono ?_
      rintro e w6 hI
      have hFi := Fi.of HL.out.1 hI
      obtain ⟨rfl, _, _⟩ := hI
      have HFi := Lib.hid hFi
      clear hFi HL x0 x1 hlt
      cases hit
      · have HG : Hid (Fi w' w6 g SB n k w1.heap.size (w1.heap.size + 1) false (some (w5.heap.size, w2.heap.size)) U 2 (M2 k pc)) := Lib.hid HFi.out
        clear HFi
        go_simp
        go_wp2_with fail
        refine (syms14 w6 g SB n false (some (w5.heap.size, w2.heap.size)) U 2 (M2 k pc) HG.out.ps).mono ?_
        rintro e w7 ⟨rfl, rfl⟩
        have hnn : ((n : Int) != (n : Int)) = false := by simp
        go_simp
        go_wp2_with fail
        go_loop [28] (fun j => ∃ q : Nat, q ≤ n ∧ j = .int .i64 q) (fun j => n - (intOf j).toNat)
        case atStart => exact ⟨0, by omega, rfl⟩
        case round =>
          obtain ⟨q, hq, rfl⟩ := hrel
          by_cases hqn : q < n
          · obtain ⟨bb, off, rfl, hcell⟩ := (HU.out.2.2.1.below HG.out.bel) (by omega)
            have e2 : _ = some (Value.int .u32 (U q)) := hcell q hqn
            have e3 := HG.out.ps.col q hqn
            clear hcell
            have hx : (U q != U q) = false := by simp
            go_wp2_with fail
            go_round
            case rel => exact ⟨q + 1, by omega, by go_num⟩
            case measure => simp [intOf]; omega
          · obtain rfl : q = n := by omega
            obtain ⟨f1, f2, f3⟩ : (M2 k pc) (ref 7 k) = some v5 ∧ (M2 k pc) (ref 0 k) = (some (.agg #[.int .u32 pc])) ∧ 2 = 2 := ⟨M2_other k pc, M2_target k pc, rfl⟩
            have hm1 := (HG.out.ps.mp _ rfl).1
            have hm2 := (HG.out.ps.mp _ rfl).2.1
            simp only at hm1 hm2
            rw [f3] at hm2
            have o0 := HG.out.o0
            have o1 := HG.out.o1
            have q0 := HG.out.t0
            have q1 := HG.out.t1
            have hOl : w1.heap.size + 1 < w7.heap.size := block_lt_of_cell o0
            have hTl : w1.heap.size < w7.heap.size := block_lt_of_cell q0
            have hPl : w5.heap.size < w7.heap.size := block_lt_of_cell hm1
            have la := look2 (show MapIs w7.drew w2.heap.size RefKey 2 (M2 k pc) from hm2) 7 k _ f1
            have lb := look2 (show MapIs ((w7.alloc (.cells #[.int .u32 0] 33)).drew) w2.heap.size RefKey 2 (M2 k pc) from hm2.alloc _) 7 k _ f1
            simp only [v5, Option.getD_some, Option.isSome_some] at la lb
            have HM2 := Lib.hid hm2
            have HF2 := Lib.hid f2
            clear hm2 f1 f2 f3
            go_wp2_with fail
            go_region
            all_goals
              clear la lb
              have HM8 : Hid (MapIs ((w7.alloc (.cells #[.int .u32 5] 33)).drew) w2.heap.size RefKey 2 (M2 k pc)) := Lib.hid (HM2.out.alloc _)
              have HB8 : Hid (Below w'.heap.size w' ((w7.alloc (.cells #[.int .u32 5] 33)).drew)) := Lib.hid ((HG.out.bel.alloc HG.out.bel.size _).trans ⟨rfl, rfl, rfl, Nat.le_refl _, fun _ _ => rfl⟩)
              have r5 : ((w7.alloc (.cells #[.int .u32 5] 33)).drew).cell? ⟨w7.heap.size, 0, none⟩ = some (.int .u32 5) := by go_simp
              have n1 : ((w7.alloc (.cells #[.int .u32 5] 33)).drew).cell? ⟨w5.heap.size, 4, none⟩ = some (.map (some w2.heap.size)) := by go_simp
              have n2 : ((w7.alloc (.cells #[.int .u32 5] 33)).drew).cell? ⟨w1.heap.size, 0, none⟩ = some (.int .u32 0) := by go_simp
              have n3 : ((w7.alloc (.cells #[.int .u32 5] 33)).drew).cell? ⟨w1.heap.size, 1, none⟩ = some (.int .u32 k) := by go_simp
              clear hm1 o0 o1 q0 q1 hOl hTl hPl
              generalize ((w7.alloc (.cells #[.int .u32 5] 33)).drew) = w8 at *
              generalize w7.heap.size = R1 at *
              have hR1 : R1 < w8.heap.size := block_lt_of_cell r5
              have hTl : w1.heap.size < w8.heap.size := block_lt_of_cell n2
              have hPl : w5.heap.size < w8.heap.size := block_lt_of_cell n1
              have la := look2 (show MapIs w8.drew w2.heap.size RefKey 2 (M2 k pc) from HM8.out) 0 k _ HF2.out
              have lb := look2 (show MapIs ((w8.alloc (.cells #[.int .u32 0] 33)).drew) w2.heap.size RefKey 2 (M2 k pc) from HM8.out.alloc _) 0 k _ HF2.out
              simp only [Option.getD_some, Option.isSome_some, Option.getD_none, Option.isSome_none] at la lb
              go_wp2_with fail
              go_region
              all_goals
                clear la lb n2 n3 r5
                have HM9 : Hid (MapIs ((w8.alloc (.cells #[.int .u32 pc] 33)).drew) w2.heap.size RefKey 2 (M2 k pc)) := Lib.hid (HM8.out.alloc _)
                have HB9 : Hid (Below w'.heap.size w' ((w8.alloc (.cells #[.int .u32 pc] 33)).drew)) := Lib.hid ((HB8.out.alloc HB8.out.size _).trans ⟨rfl, rfl, rfl, Nat.le_refl _, fun _ _ => rfl⟩)
                have r6 : ((w8.alloc (.cells #[.int .u32 pc] 33)).drew).cell? ⟨w8.heap.size, 0, none⟩ = some (.int .u32 pc) := by go_simp
                have n4 : ((w8.alloc (.cells #[.int .u32 pc] 33)).drew).cell? ⟨w5.heap.size, 4, none⟩ = some (.map (some w2.heap.size)) := by go_simp
                have hlen := fun ty => HM9.out.len Try.underlying31 ty
                generalize ((w8.alloc (.cells #[.int .u32 pc] 33)).drew) = w9 at *
                generalize w8.heap.size = R2 at *
                clear n1
                have hpc : (pc != pc) = false := by simp
                go_wp2_with fail
                go_ret
                exact ⟨rfl, HB9.out⟩
      · have HG : Hid (Fi w' w6 g SB n k w1.heap.size (w1.heap.size + 1) false (some (w5.heap.size, w2.heap.size)) (updI U k (dec (U k))) (decm 2 (M2 k pc) k) (decM (M2 k pc) k)) := Lib.hid HFi.out
        clear HFi
        go_simp
        go_wp2_with fail
        refine (syms14 w6 g SB n false (some (w5.heap.size, w2.heap.size)) (updI U k (dec (U k))) (decm 2 (M2 k pc) k) (decM (M2 k pc) k) HG.out.ps).mono ?_
        rintro e w7 ⟨rfl, rfl⟩
        have hnn : ((n : Int) != (n : Int)) = false := by simp
        go_simp
        go_wp2_with fail
        obtain ⟨y, hy⟩ : ∃ y, (U k - 1) % 4294967296 = y := ⟨_, rfl⟩
        have HY := Lib.hid hy
        clear hy
        go_loop [28] (fun j => ∃ q : Nat, q ≤ n ∧ j = .int .i64 q) (fun j => n - (intOf j).toNat)
        case atStart => exact ⟨0, by omega, rfl⟩
        case round =>
          obtain ⟨q, hq, rfl⟩ := hrel
          by_cases hqn : q < n
          · obtain ⟨bb, off, rfl, hcell⟩ := (HU.out.2.2.1.below HG.out.bel) (by omega)
            have e2 : _ = some (Value.int .u32 (U q)) := hcell q hqn
            have e3 := HG.out.ps.col q hqn
            clear hcell
            by_cases hqk : q = k
            · subst hqk
              have hy := HY.out
              have hu : updI U q (dec (U q)) q = y := by unfold updI; rw [if_pos rfl]; exact HY.out
              rw [hu] at e3
              have hx : (y != y) = false := by simp
              have hx2 : ((q : Int) == (q : Int)) = true := by simp
              clear hu
              go_wp2_with fail
              go_round
              case rel => exact ⟨q + 1, by omega, by go_num⟩
              case measure => simp [intOf]; omega
            · have hu : updI U k (dec (U k)) q = U q := by unfold updI; rw [if_neg hqk]
              rw [hu] at e3
              have hx : (U q != U q) = false := by simp
              have hx2 : ((q : Int) == (k : Int)) = false := by simp; omega
              clear hu hqk
              go_wp2_with fail
              go_round
              case rel => exact ⟨q + 1, by omega, by go_num⟩
              case measure => simp [intOf]; omega
          · obtain rfl : q = n := by omega
            by_cases hzz : dec pc = 0
            · obtain ⟨f1, f2, f3⟩ : (decM (M2 k pc) k) (ref 7 k) = some v5 ∧ (decM (M2 k pc) k) (ref 0 k) = none ∧ (decm 2 (M2 k pc) k) = 1 := fin_q0 k pc hzz
              have hm1 := (HG.out.ps.mp _ rfl).1
              have hm2 := (HG.out.ps.mp _ rfl).2.1
              simp only at hm1 hm2
              rw [f3] at hm2
              have o0 := HG.out.o0
              have o1 := HG.out.o1
              have q0 := HG.out.t0
              have q1 := HG.out.t1
              have hOl : w1.heap.size + 1 < w7.heap.size := block_lt_of_cell o0
              have hTl : w1.heap.size < w7.heap.size := block_lt_of_cell q0
              have hPl : w5.heap.size < w7.heap.size := block_lt_of_cell hm1
              have la := look2 (show MapIs w7.drew w2.heap.size RefKey 1 (decM (M2 k pc) k) from hm2) 7 k _ f1
              have lb := look2 (show MapIs ((w7.alloc (.cells #[.int .u32 0] 33)).drew) w2.heap.size RefKey 1 (decM (M2 k pc) k) from hm2.alloc _) 7 k _ f1
              simp only [v5, Option.getD_some, Option.isSome_some] at la lb
              have HM2 := Lib.hid hm2
              have HF2 := Lib.hid f2
              clear hm2 f1 f2 f3
              go_wp2_with fail
              go_region
              all_goals
                clear la lb
                have HM8 : Hid (MapIs ((w7.alloc (.cells #[.int .u32 5] 33)).drew) w2.heap.size RefKey 1 (decM (M2 k pc) k)) := Lib.hid (HM2.out.alloc _)
                have HB8 : Hid (Below w'.heap.size w' ((w7.alloc (.cells #[.int .u32 5] 33)).drew)) := Lib.hid ((HG.out.bel.alloc HG.out.bel.size _).trans ⟨rfl, rfl, rfl, Nat.le_refl _, fun _ _ => rfl⟩)
                have r5 : ((w7.alloc (.cells #[.int .u32 5] 33)).drew).cell? ⟨w7.heap.size, 0, none⟩ = some (.int .u32 5) := by go_simp
                have n1 : ((w7.alloc (.cells #[.int .u32 5] 33)).drew).cell? ⟨w5.heap.size, 4, none⟩ = some (.map (some w2.heap.size)) := by go_simp
                have n2 : ((w7.alloc (.cells #[.int .u32 5] 33)).drew).cell? ⟨w1.heap.size, 0, none⟩ = some (.int .u32 0) := by go_simp
                have n3 : ((w7.alloc (.cells #[.int .u32 5] 33)).drew).cell? ⟨w1.heap.size, 1, none⟩ = some (.int .u32 k) := by go_simp
                clear hm1 o0 o1 q0 q1 hOl hTl hPl
                generalize ((w7.alloc (.cells #[.int .u32 5] 33)).drew) = w8 at *
                generalize w7.heap.size = R1 at *
                have hR1 : R1 < w8.heap.size := block_lt_of_cell r5
                have hTl : w1.heap.size < w8.heap.size := block_lt_of_cell n2
                have hPl : w5.heap.size < w8.heap.size := block_lt_of_cell n1
                have la := look2 (show MapIs w8.drew w2.heap.size RefKey 1 (decM (M2 k pc) k) from HM8.out) 0 k _ HF2.out
                have lb := look2 (show MapIs ((w8.alloc (.cells #[.int .u32 0] 33)).drew) w2.heap.size RefKey 1 (decM (M2 k pc) k) from HM8.out.alloc _) 0 k _ HF2.out
                simp only [Option.getD_some, Option.isSome_some, Option.getD_none, Option.isSome_none] at la lb
                go_wp2_with fail
                go_region
                all_goals
                  clear la lb n2 n3 r5
                  have HM9 : Hid (MapIs ((w8.alloc (.cells #[.int .u32 0] 33)).drew) w2.heap.size RefKey 1 (decM (M2 k pc) k)) := Lib.hid (HM8.out.alloc _)
                  have HB9 : Hid (Below w'.heap.size w' ((w8.alloc (.cells #[.int .u32 0] 33)).drew)) := Lib.hid ((HB8.out.alloc HB8.out.size _).trans ⟨rfl, rfl, rfl, Nat.le_refl _, fun _ _ => rfl⟩)
                  have r6 : ((w8.alloc (.cells #[.int .u32 0] 33)).drew).cell? ⟨w8.heap.size, 0, none⟩ = some (.int .u32 0) := by go_simp
                  have n4 : ((w8.alloc (.cells #[.int .u32 0] 33)).drew).cell? ⟨w5.heap.size, 4, none⟩ = some (.map (some w2.heap.size)) := by go_simp
                  have hlen := fun ty => HM9.out.len Try.underlying31 ty
                  generalize ((w8.alloc (.cells #[.int .u32 0] 33)).drew) = w9 at *
                  generalize w8.heap.size = R2 at *
                  clear n1
                  have hz0 : (pc - 1) % 4294967296 = 0 := hzz
                  clear hzz
                  go_wp2_with fail
                  go_ret
                  exact ⟨rfl, HB9.out⟩
            · obtain ⟨f1, f2, f3⟩ : (decM (M2 k pc) k) (ref 7 k) = some v5 ∧ (decM (M2 k pc) k) (ref 0 k) = (some (.agg #[.int .u32 (dec pc)])) ∧ (decm 2 (M2 k pc) k) = 2 := fin_q1 k pc hzz
              have hm1 := (HG.out.ps.mp _ rfl).1
              have hm2 := (HG.out.ps.mp _ rfl).2.1
              simp only at hm1 hm2
              rw [f3] at hm2
              have o0 := HG.out.o0
              have o1 := HG.out.o1
              have q0 := HG.out.t0
              have q1 := HG.out.t1
              have hOl : w1.heap.size + 1 < w7.heap.size := block_lt_of_cell o0
              have hTl : w1.heap.size < w7.heap.size := block_lt_of_cell q0
              have hPl : w5.heap.size < w7.heap.size := block_lt_of_cell hm1
              have la := look2 (show MapIs w7.drew w2.heap.size RefKey 2 (decM (M2 k pc) k) from hm2) 7 k _ f1
              have lb := look2 (show MapIs ((w7.alloc (.cells #[.int .u32 0] 33)).drew) w2.heap.size RefKey 2 (decM (M2 k pc) k) from hm2.alloc _) 7 k _ f1
              simp only [v5, Option.getD_some, Option.isSome_some] at la lb
              have HM2 := Lib.hid hm2
              have HF2 := Lib.hid f2
              clear hm2 f1 f2 f3
              go_wp2_with fail
              go_region
              all_goals
                clear la lb
                have HM8 : Hid (MapIs ((w7.alloc (.cells #[.int .u32 5] 33)).drew) w2.heap.size RefKey 2 (decM (M2 k pc) k)) := Lib.hid (HM2.out.alloc _)
                have HB8 : Hid (Below w'.heap.size w' ((w7.alloc (.cells #[.int .u32 5] 33)).drew)) := Lib.hid ((HG.out.bel.alloc HG.out.bel.size _).trans ⟨rfl, rfl, rfl, Nat.le_refl _, fun _ _ => rfl⟩)
                have r5 : ((w7.alloc (.cells #[.int .u32 5] 33)).drew).cell? ⟨w7.heap.size, 0, none⟩ = some (.int .u32 5) := by go_simp
                have n1 : ((w7.alloc (.cells #[.int .u32 5] 33)).drew).cell? ⟨w5.heap.size, 4, none⟩ = some (.map (some w2.heap.size)) := by go_simp
                have n2 : ((w7.alloc (.cells #[.int .u32 5] 33)).drew).cell? ⟨w1.heap.size, 0, none⟩ = some (.int .u32 0) := by go_simp
                have n3 : ((w7.alloc (.cells #[.int .u32 5] 33)).drew).cell? ⟨w1.heap.size, 1, none⟩ = some (.int .u32 k) := by go_simp
                clear hm1 o0 o1 q0 q1 hOl hTl hPl
                generalize ((w7.alloc (.cells #[.int .u32 5] 33)).drew) = w8 at *
                generalize w7.heap.size = R1 at *
                have hR1 : R1 < w8.heap.size := block_lt_of_cell r5
                have hTl : w1.heap.size < w8.heap.size := block_lt_of_cell n2
                have hPl : w5.heap.size < w8.heap.size := block_lt_of_cell n1
                have la := look2 (show MapIs w8.drew w2.heap.size RefKey 2 (decM (M2 k pc) k) from HM8.out) 0 k _ HF2.out
                have lb := look2 (show MapIs ((w8.alloc (.cells #[.int .u32 0] 33)).drew) w2.heap.size RefKey 2 (decM (M2 k pc) k) from HM8.out.alloc _) 0 k _ HF2.out
                simp only [Option.getD_some, Option.isSome_some, Option.getD_none, Option.isSome_none] at la lb
                go_wp2_with fail
                go_region
                all_goals
                  clear la lb n2 n3 r5
                  have HM9 : Hid (MapIs ((w8.alloc (.cells #[.int .u32 (dec pc)] 33)).drew) w2.heap.size RefKey 2 (decM (M2 k pc) k)) := Lib.hid (HM8.out.alloc _)
                  have HB9 : Hid (Below w'.heap.size w' ((w8.alloc (.cells #[.int .u32 (dec pc)] 33)).drew)) := Lib.hid ((HB8.out.alloc HB8.out.size _).trans ⟨rfl, rfl, rfl, Nat.le_refl _, fun _ _ => rfl⟩)
                  have r6 : ((w8.alloc (.cells #[.int .u32 (dec pc)] 33)).drew).cell? ⟨w8.heap.size, 0, none⟩ = some (.int .u32 (dec pc)) := by go_simp
                  have n4 : ((w8.alloc (.cells #[.int .u32 (dec pc)] 33)).drew).cell? ⟨w5.heap.size, 4, none⟩ = some (.map (some w2.heap.size)) := by go_simp
                  have hlen := fun ty => HM9.out.len Try.underlying31 ty
                  generalize ((w8.alloc (.cells #[.int .u32 (dec pc)] 33)).drew) = w9 at *
                  generalize w8.heap.size = R2 at *
                  clear n1
                  obtain ⟨z, hz0⟩ : ∃ z, (pc - 1) % 4294967296 = z := ⟨_, rfl⟩
                  have hz1 : dec pc = z := hz0
                  have hz2 : (z != 0) = true := by rw [hz1] at hzz; simpa using hzz
                  have hz3 : (z != z) = false := by simp
                  rw [hz1] at r6
                  clear hzz hz1
                  go_wp2_with fail
                  go_ret
                  exact ⟨rfl, HB9.out⟩
end Go.Proofs.Ytomgcoggplaklaa.ch
