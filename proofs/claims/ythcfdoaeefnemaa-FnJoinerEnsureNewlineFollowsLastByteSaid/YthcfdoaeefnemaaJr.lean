/-
  The walk of FnJoinerEnsureNewlineFollowsLastByte.
-/
import Derived.Test.YthcfdoaeefnemaaJc
import Derived.Test.YthcfdoaeefnemaaJg
import Derived.Test.YthcfdoaeefnemaaJx
namespace Go.Proofs.Ythcfdoaeefnemaa.jn
open Go.ChangeShapes Go.WideShapes Go.ChangeAt Go.RowKit Go.Deep Go.Lib
set_option linter.unusedVariables false
set_option linter.unusedSimpArgs false

set_option maxRecDepth 100000 in
set_option maxHeartbeats 8000000 in
theorem main5 (w : World) (a0 : Option Addr) (l0 c0 : Nat) (A : Nat → Option Addr) (L C : Nat → Nat) (Z : Nat → Nat → Int) (a1 : Option Addr) (l1 c1 : Nat) (K : Nat → Bool) (m0 : IsMat .u8 w a0 l0 c0 A L C Z) (k0 : IsBools w a1 l1 c1 K) :
    Calls Try.prog 5 #[.slice a0 l0 c0, .slice a1 l1 c1] w (Yes w) := by
  have M0 := Lib.hid m0
  have K0 := Lib.hid k0
  clear m0 k0
  have hi5 := info5p
  obtain ⟨i0, z0, e1, e2, e3, e4, e5⟩ := hi5
  have E1 := Lib.hid e1
  have E2 := Lib.hid e2
  have E3 := Lib.hid e3
  have E4 := Lib.hid e4
  have E5 := Lib.hid e5
  clear e1 e2 e3 e4 e5
  go_enter Try.func5, Try.ntmps5
  go_wp2_with fail
  refine (bytes16 w a0 l0 c0 A L C a1 l1 c1 M0.out.2.2.1).mono ?_
  rintro e w' ⟨⟨b, rfl⟩, rfl⟩
  cases b
  · go_simp
    go_wp2_with fail
    go_ret
    exact ⟨rfl, Below.refl _ _⟩
  by_cases g1 : l0 ≤ 65536
  rotate_left
  · have t1 : decide ((65536 : Int) < (l0 : Int)) = true := by simp; omega
    clear g1
    go_simp
    go_wp2_with fail
    go_ret
    exact ⟨rfl, Below.refl _ _⟩
  have t1 : decide ((65536 : Int) < (l0 : Int)) = false := by simp; omega
  by_cases g2 : l1 ≤ 65536
  rotate_left
  · have t2 : decide ((65536 : Int) < (l1 : Int)) = true := by simp; omega
    clear g1 g2
    go_simp
    go_wp2_with fail
    go_ret
    exact ⟨rfl, Below.refl _ _⟩
  have t2 : decide ((65536 : Int) < (l1 : Int)) = false := by simp; omega
  go_simp
  go_wp2_with fail
  refine (size17b w a0 l0 c0 A L C a1 l1 c1 g1 g2 M0.out.2.2.1).mono ?_
  rintro e w' ⟨⟨sz, rfl, hsz⟩, rfl⟩
  clear t1 t2
  by_cases g3 : sz ≤ 1048576
  rotate_left
  · have t1 : decide ((1048576 : Int) < sz) = true := by simp; omega
    clear g3 hsz
    go_simp
    go_wp2_with fail
    go_ret
    exact ⟨rfl, Below.refl _ _⟩
  have HSz0 := Lib.hid (hsz g3)
  have HSz : Hid (sumL L l0 ≤ 1048576) := Lib.hid (by have := HSz0.out; omega)
  have t1 : decide ((1048576 : Int) < sz) = false := by simp; omega
  clear hsz g3
  have HLk : Hid (∀ r, r < l0 → L r ≤ 1048576) := Lib.hid (fun r hr => by
    have := sumL_mono L (show r + 1 ≤ l0 by omega)
    simp only [sumL] at this
    have := HSz.out; omega)
  go_simp
  go_wp2_with fail
  refine (cloneL_all w a0 l0 c0 A L C Z g1 HLk.out M0.out).mono ?_
  rintro e w1 ⟨b0, d0, A', C', rfl, hrow1, hparts, bel1⟩
  have RA := Lib.hid hrow1
  have RP := Lib.hid hparts
  have BA := Lib.hid bel1
  clear hrow1 hparts bel1 t1
  go_simp
  go_wp2_with fail
  refine (clonek_all w1 a1 l1 c1 K (by omega) K0.out.1 (K0.out.2.2.below BA.out)).mono ?_
  rintro e w2 ⟨b1, d1, rfl, hrow2, bel2, _⟩
  have RK := Lib.hid hrow2
  have RA2 := Lib.hid (RA.out.below bel2)
  have RP2 : Hid (∀ r, r < l0 → RowD w2 w2.heap.size (A' r) (L r) (byteAt (part Z L r))) := Lib.hid (fun r hr => Row.toD (((RP.out r hr).below bel2).congr (fun i hi => (byteAt_part hi ((M0.out.2.2.2 r hr).2.2.2 i)).symm)))
  have BA2 := Lib.hid (BA.out.trans (bel2.mono BA.out.size))
  clear hrow2 bel2 RA RP BA
  go_simp
  go_wp2_with fail
  have HJ0 := Lib.hid ((Jn.new w2 w2.heap.size (Nat.le_refl _)).keep (F := fun _ => False) ((Touch.refl _ _).alloc (.cells #[] 5)) (by simp) (by simp) (by simp) (by simp))
  have HW0 := Lib.hid (wt_new w2 w2.heap.size (Nat.le_refl _))
  have HB0 : Hid (Below w2.heap.size w2 ((w2.alloc (.cells #[.slice none 0 0, .slice none 0 0, .int .u32 0, .int .u8 0] 30)).alloc (.cells #[] 5))) := Lib.hid (((Below.refl _ _).alloc (Nat.le_refl _) _).alloc (by simp) _)
  generalize ((w2.alloc (.cells #[.slice none 0 0, .slice none 0 0, .int .u32 0, .int .u8 0] 30)).alloc (.cells #[] 5)) = w9 at *
  generalize hD : w2.heap.size = D at *
  have HD := Lib.hid hD
  clear hD
  go_loopw [6, 7] (fun v i wr => ∃ (k : Nat) (gs gb : Option Nat) (S : List (ByteArray × Nat)) (Y : List BItem), k ≤ l0 ∧ i = .int .i64 k ∧ S.length ≤ k ∧ Y.length ≤ k ∧ Jn wr D D gs gb S Y (catP Z L k) ∧ Wt wr D D gs gb v (catP Z L k) ∧ Below D w2 wr) (fun v i _ => l0 - (intOf i).toNat)
  case atStart => exact ⟨0, none, none, [], [], by omega, rfl, by simp, by simp, HJ0.out, HW0.out, HB0.out⟩
  case round =>
    clear HJ0 HW0 HB0
    obtain ⟨k, gs, gb, S, Y, hk, rfl, hS, hY, hJ, hW, hB⟩ := hrel
    have HSn := Lib.hid hS
    have HYn := Lib.hid hY
    have HJ := Lib.hid hJ
    have HW := Lib.hid hW
    have HB := Lib.hid hB
    have hT : (catP Z L k).length ≤ 1048576 := by rw [length_catP]; exact Nat.le_trans (sumL_mono L hk) HSz.out
    clear hS hY hJ hW hB
    by_cases hlt : k < l0
    · have hTs : (catP Z L k).length + L k ≤ 1048576 := by
        have := sumL_mono L (show k + 1 ≤ l0 by omega)
        simp only [sumL] at this
        rw [length_catP]; have := HSz.out; omega
      have hLk := HLk.out k hlt
      have HTk : Hid (catP Z L (k + 1) = catP Z L k ++ part Z L k) := Lib.hid rfl
      generalize catP Z L k = T at *
      have RPk : Hid (RowD wr D (A' k) (L k) (byteAt (part Z L k))) := Lib.hid ((RP2.out k hlt).below HB.out (Nat.le_refl _))
      obtain ⟨b, off, e, hcell⟩ := (RA2.out.below (by rw [HD.out]; exact HB.out)) (by omega)
      cases e
      have c1 := hcell k hlt
      clear hcell
      go_wp2_with fail
      refine (kind20 wr b1 l1 d1 K k (by omega) (RK.out.below (by rw [HD.out]; exact HB.out))).mono ?_
      rintro e w' ⟨rfl, rfl⟩
      clear c1
      cases hb : (if k < l1 then K k else false) with
      | true =>
        have HKB := Lib.hid hb
        clear hb
        have hcv := fun nq => convX (wr.drewN nq) (A' k) (L k) (C' k) (part Z L k) (length_part Z L k) (show Row (wr.drewN nq) (A' k) (L k) (byteAt (part Z L k)) from (RPk.out).row)
        have hcv0 := hcv 0
        rw [World.drewN_zero] at hcv0
        clear hcv
        go_simp
        go_wp2_with fail
        refine (addX wr D D gs gb S Y T (part Z L k) HJ.out (by omega) (by rw [length_part]; omega) (by have := HSn.out; omega)).mono ?_
        rintro e w3 ⟨rfl, gs', hJ', hgs, hT'⟩
        clear hcv0
        have HJ3 : Hid (Jn w3 D D gs' gb (S ++ [(⟨(part Z L k).toArray⟩, T.length)]) Y (T ++ part Z L k)) := Lib.hid hJ'
        have HB3 := Lib.hid (HB.out.trans (HJ.out.belX hT'))
        have HSm : Hid ((S ++ [((⟨(part Z L k).toArray⟩ : ByteArray), T.length)]).length ≤ k + 1) := Lib.hid (by have := HSn.out; simp; omega)
        have HYm : Hid (Y.length ≤ k + 1) := Lib.hid (by have := HYn.out; omega)
        have HW3 := Lib.hid (HW.out.addS hgs hT')
        clear hJ' hgs hT'
        generalize (S ++ [((⟨(part Z L k).toArray⟩ : ByteArray), T.length)]) = S' at *
        obtain ⟨Y', hY'⟩ : ∃ Y', Y' = Y := ⟨_, rfl⟩
        subst hY'
        obtain ⟨gb', hgb'⟩ : ∃ gb', gb' = gb := ⟨_, rfl⟩
        subst hgb'
        obtain ⟨P, hP⟩ : ∃ P, P = part Z L k := ⟨_, rfl⟩
        have HPl : Hid (P.length = L k) := Lib.hid (by rw [hP, length_part])
        have RPw : Hid (RowD w2 D (A' k) (L k) (byteAt P)) := Lib.hid (by rw [hP]; exact RP2.out k hlt)
        rw [← hP] at HJ3 HTk
        clear hP
        clear HJ HW HB RPk
        go_simp
        go_wp2_with fail
        go_loopw [6, 9] (fun v i wr => ∃ (j : Nat), j ≤ L k ∧ i = .int .i64 j ∧ Jn wr D D gs' gb' S' Y' (T ++ P) ∧ Wt wr D D gs' gb' v (T ++ P.take j) ∧ Below D w2 wr) (fun v i _ => L k - (intOf i).toNat)
        case atStart => exact ⟨0, by omega, rfl, HJ3.out, by simpa using HW3.out, HB3.out⟩
        case round =>
          clear HJ3 HW3 HB3
          obtain ⟨j, hj, rfl, hJ, hW, hB⟩ := hrel
          have HJ := Lib.hid hJ
          have HB := Lib.hid hB
          clear hJ hB
          by_cases hlt2 : j < L k
          · obtain ⟨gw, cap, rfl, o1, o2, o3, o4⟩ := hW
            have O1 := Lib.hid o1
            have O2 := Lib.hid o2
            have O3 := Lib.hid o3
            have O4 := Lib.hid o4
            clear o1 o2 o3 o4
            have hPl := HPl.out
            have HX : Hid (P.take (j + 1) = P.take j ++ [P.getD j 0]) := Lib.hid (by
              rw [List.take_succ_eq_append_getElem (by omega), List.getD_eq_getElem?_getD, List.getElem?_eq_getElem (by omega)]; rfl)
            have hlen : (T ++ P.take j).length ≤ 1048576 := by simp only [List.length_append, List.length_take]; omega
            generalize hU : T ++ P.take j = U at *
            have HU := Lib.hid hU
            clear hU hPl
            have hsz : D ≤ wr.heap.size := by have := HB.out.size; rw [HD.out] at this; exact this
            obtain ⟨pb, poff, hpa, hpD, hpc⟩ := (RPw.out.below HB.out (Nat.le_refl _)) (by omega)
            have c2 := hpc j hlt2
            unfold byteAt at c2
            generalize P.getD j 0 = x at *
            rw [hpa]
            clear hpc
            have HPA := Lib.hid hpa
            clear hpa
            go_wp2_with (first | (at_builtin; refine wpList_append_lies _ rfl (.tmp 55) (.tmp 60) 31 rfl D 5 i0 z0 1 1 Try.underlying31 E1.out E2.out E4.out E5.out E3.out (by decide) _ U.length (byteCells U) rfl (O1.out.alloc _) ⟨wr.heap.size, 0, none⟩ 1 1 [.int .u8 (x.toNat : Int)] rfl rfl (cell_one_new _ _ _) (ones _) (by decide) (by unfold maxLen; omega) (by omega) (by simp; omega) _ rfl ?_; intro gw' cap' w4 hown hgrow hat hltw))
            obtain ⟨hJ4, hW4, hB4⟩ := Wt.push HJ.out O1.out O2.out O3.out O4.out hown hgrow hat
            have HJ4 := Lib.hid hJ4
            have HW4 := Lib.hid hW4
            have HB4 := Lib.hid (HB.out.trans hB4)
            clear hJ4 hW4 hB4 hown hgrow hat hltw
            go_wp2_with fail
            go_roundw
            case rel => exact ⟨j + 1, by omega, by go_num, HJ4.out, by rw [HX.out, ← List.append_assoc, HU.out]; exact HW4.out, HB4.out⟩
            case measure => simp [intOf]; omega
          · obtain rfl : j = L k := by omega
            have hW2 := hW
            rw [List.take_of_length_le (by rw [HPl.out]; exact Nat.le_refl _)] at hW2
            have HW := Lib.hid hW2
            clear hW hW2
            go_wp2_with fail
            go_roundw
            case rel => exact ⟨k + 1, gs', gb', S', Y', by omega, by go_num, HSm.out, HYm.out, by rw [HTk.out]; exact HJ.out, by rw [HTk.out]; exact HW.out, HB.out⟩
            case measure => simp [intOf]; omega
      | false =>
        have HKB := Lib.hid hb
        clear hb
        go_simp
        go_wp2_with fail
        refine (addY wr D D gs gb S Y T (A' k) (L k) (C' k) (part Z L k) HJ.out (length_part Z L k) RPk.out (by omega) (by omega) (by have := HYn.out; omega)).mono ?_
        rintro e w3 ⟨rfl, gb', hJ', hgs, hT'⟩
        have HJ3 : Hid (Jn w3 D D gs gb' S (Y ++ [⟨A' k, L k, C' k, part Z L k, T.length⟩]) (T ++ part Z L k)) := Lib.hid hJ'
        have HB3 := Lib.hid (HB.out.trans (HJ.out.belY hT'))
        have HSm : Hid (S.length ≤ k + 1) := Lib.hid (by have := HSn.out; omega)
        have HYm : Hid ((Y ++ [(⟨A' k, L k, C' k, part Z L k, T.length⟩ : BItem)]).length ≤ k + 1) := Lib.hid (by have := HYn.out; simp; omega)
        have HW3 := Lib.hid (HW.out.addB hgs hT')
        clear hJ' hgs hT'
        generalize (Y ++ [(⟨A' k, L k, C' k, part Z L k, T.length⟩ : BItem)]) = Y' at *
        obtain ⟨S', hS'⟩ : ∃ S', S' = S := ⟨_, rfl⟩
        subst hS'
        obtain ⟨gs', hgs'⟩ : ∃ gs', gs' = gs := ⟨_, rfl⟩
        subst hgs'
        obtain ⟨P, hP⟩ : ∃ P, P = part Z L k := ⟨_, rfl⟩
        have HPl : Hid (P.length = L k) := Lib.hid (by rw [hP, length_part])
        have RPw : Hid (RowD w2 D (A' k) (L k) (byteAt P)) := Lib.hid (by rw [hP]; exact RP2.out k hlt)
        rw [← hP] at HJ3 HTk
        clear hP
        clear HJ HW HB RPk
        go_simp
        go_wp2_with fail
        go_loopw [6, 9] (fun v i wr => ∃ (j : Nat), j ≤ L k ∧ i = .int .i64 j ∧ Jn wr D D gs' gb' S' Y' (T ++ P) ∧ Wt wr D D gs' gb' v (T ++ P.take j) ∧ Below D w2 wr) (fun v i _ => L k - (intOf i).toNat)
        case atStart => exact ⟨0, by omega, rfl, HJ3.out, by simpa using HW3.out, HB3.out⟩
        case round =>
          clear HJ3 HW3 HB3
          obtain ⟨j, hj, rfl, hJ, hW, hB⟩ := hrel
          have HJ := Lib.hid hJ
          have HB := Lib.hid hB
          clear hJ hB
          by_cases hlt2 : j < L k
          · obtain ⟨gw, cap, rfl, o1, o2, o3, o4⟩ := hW
            have O1 := Lib.hid o1
            have O2 := Lib.hid o2
            have O3 := Lib.hid o3
            have O4 := Lib.hid o4
            clear o1 o2 o3 o4
            have hPl := HPl.out
            have HX : Hid (P.take (j + 1) = P.take j ++ [P.getD j 0]) := Lib.hid (by
              rw [List.take_succ_eq_append_getElem (by omega), List.getD_eq_getElem?_getD, List.getElem?_eq_getElem (by omega)]; rfl)
            have hlen : (T ++ P.take j).length ≤ 1048576 := by simp only [List.length_append, List.length_take]; omega
            generalize hU : T ++ P.take j = U at *
            have HU := Lib.hid hU
            clear hU hPl
            have hsz : D ≤ wr.heap.size := by have := HB.out.size; rw [HD.out] at this; exact this
            obtain ⟨pb, poff, hpa, hpD, hpc⟩ := (RPw.out.below HB.out (Nat.le_refl _)) (by omega)
            have c2 := hpc j hlt2
            unfold byteAt at c2
            generalize P.getD j 0 = x at *
            rw [hpa]
            clear hpc
            have HPA := Lib.hid hpa
            clear hpa
            go_wp2_with (first | (at_builtin; refine wpList_append_lies _ rfl (.tmp 55) (.tmp 60) 31 rfl D 5 i0 z0 1 1 Try.underlying31 E1.out E2.out E4.out E5.out E3.out (by decide) _ U.length (byteCells U) rfl (O1.out.alloc _) ⟨wr.heap.size, 0, none⟩ 1 1 [.int .u8 (x.toNat : Int)] rfl rfl (cell_one_new _ _ _) (ones _) (by decide) (by unfold maxLen; omega) (by omega) (by simp; omega) _ rfl ?_; intro gw' cap' w4 hown hgrow hat hltw))
            obtain ⟨hJ4, hW4, hB4⟩ := Wt.push HJ.out O1.out O2.out O3.out O4.out hown hgrow hat
            have HJ4 := Lib.hid hJ4
            have HW4 := Lib.hid hW4
            have HB4 := Lib.hid (HB.out.trans hB4)
            clear hJ4 hW4 hB4 hown hgrow hat hltw
            go_wp2_with fail
            go_roundw
            case rel => exact ⟨j + 1, by omega, by go_num, HJ4.out, by rw [HX.out, ← List.append_assoc, HU.out]; exact HW4.out, HB4.out⟩
            case measure => simp [intOf]; omega
          · obtain rfl : j = L k := by omega
            have hW2 := hW
            rw [List.take_of_length_le (by rw [HPl.out]; exact Nat.le_refl _)] at hW2
            have HW := Lib.hid hW2
            clear hW hW2
            go_wp2_with fail
            go_roundw
            case rel => exact ⟨k + 1, gs', gb', S', Y', by omega, by go_num, HSm.out, HYm.out, by rw [HTk.out]; exact HJ.out, by rw [HTk.out]; exact HW.out, HB.out⟩
            case measure => simp [intOf]; omega
    · obtain rfl : k = l0 := by omega
      have hT3 : (catP Z L k).length ≤ 1048528 := by rw [length_catP]; exact HSz0.out
      generalize catP Z L k = T at *
      obtain ⟨gw, cap, rfl, o1, o2, o3, o4⟩ := HW.out
      have O1 := Lib.hid o1
      have O2 := Lib.hid o2
      have O3 := Lib.hid o3
      have O4 := Lib.hid o4
      have HJ7 := HJ
      have HB7 := HB
      have hrw := Wt.row (g := 0) o1
      have HRW := Lib.hid hrw
      clear o1 o2 o3 o4 hrw
      by_cases hT0 : T.length = 0
      · obtain rfl : T = [] := List.eq_nil_of_length_eq_zero hT0
        clear hT0
        simp only [List.length_nil]
        go_simp
        go_wp2_with fail
        refine (nl_no wr D D gs gb S Y [] HJ.out (by omega) (.inl rfl)).mono ?_
        rintro e w8 ⟨rfl, gs8, S8, hS8, hJ8, hgs8, hT8⟩
        have HW8 := Lib.hid (HW.out.addS hgs8 hT8)
        have HJ8 := Lib.hid hJ8
        have HS8 := Lib.hid hS8
        have HB8 := Lib.hid (HB7.out.trans (HJ7.out.belX hT8))
        clear hJ8 hgs8 hT8 hS8
        obtain ⟨aw, cw, hv, hrow8⟩ := wt_form HW8.out
        simp only [Value.slice.injEq] at hv
        obtain ⟨rfl, hz, rfl⟩ := hv
        clear HW8 hz
        have HR8 := Lib.hid hrow8
        clear hrow8
        go_simp
        go_wp2_with fail
        refine (lengthJ w8 D D gs8 gb S8 Y [] HJ8.out).mono ?_
        rintro e w' ⟨rfl, rfl⟩
        go_simp
        go_wp2_with fail
        refine (done w8 D D gs8 gb S8 Y [] HJ8.out (by first | omega | exact hUl) (by have := HSn.out; have := HS8.out; omega) (by have := HYn.out; omega)).mono ?_
        rintro e w5 ⟨ad, cd, rfl, hr5, hb5⟩
        have HR5 := Lib.hid hr5
        have HB5 := Lib.hid hb5
        clear hr5 hb5
        go_simp
        go_wp2_with fail
        refine (beq w5 ad _ (0) cd _ [] (by omega) (by simpa using HR5.out) (by simpa using HR8.out.below HB5.out)).mono ?_
        rintro e w6 ⟨nq, rfl, rfl⟩
        go_simp
        go_wp2_with fail
        go_ret
        refine ⟨rfl, ?_⟩
        have hb : Below w.heap.size w w5 := BA2.out.trans ((HB8.out.mono (by rw [← HD.out]; exact BA2.out.size)).trans (HB5.out.mono (by have := HB8.out.size; have := BA2.out.size; omega)))
        exact ⟨hb.os, hb.tape, hb.output, hb.size, hb.block⟩
      · obtain ⟨b, off, e, hc5⟩ := HRW.out (by omega)
        cases e
        have hTp : 0 < T.length := by omega
        obtain ⟨x, hx⟩ : ∃ x : Int, lastOf T 0 = x := ⟨_, rfl⟩
        have c2 : wr.cell? ⟨gw, 0 + (T.length - 1), none⟩ = some (.int .u8 x) := by
          rw [hc5 _ (by omega), ← hx, lastOf_cons (n := T.length) rfl (by omega)]
          simp [byteAt]
        rw [Nat.zero_add] at c2
        have HX := Lib.hid hx
        have t1 : decide ((0 : Int) < (T.length : Int)) = true := by simp; omega
        clear hc5 hx hT0
        by_cases hx10 : x = 10
        · subst hx10
          go_wp2_with fail
          refine (nl_no wr D D gs gb S Y T HJ.out (by omega) (.inr HX.out)).mono ?_
          rintro e w8 ⟨rfl, gs8, S8, hS8, hJ8, hgs8, hT8⟩
          have HW8 := Lib.hid (HW.out.addS hgs8 hT8)
          have HJ8 := Lib.hid hJ8
          have HS8 := Lib.hid hS8
          have HB8 := Lib.hid (HB7.out.trans (HJ7.out.belX hT8))
          clear hJ8 hgs8 hT8 hS8
          obtain ⟨aw, cw, hv, hrow8⟩ := wt_form HW8.out
          simp only [Value.slice.injEq] at hv
          obtain ⟨rfl, hz, rfl⟩ := hv
          clear HW8 hz
          have HR8 := Lib.hid hrow8
          clear hrow8
          go_simp
          go_wp2_with fail
          refine (lastX w8 D D gs8 gb S8 Y T HJ8.out 10 HX.out).mono ?_
          rintro e w' ⟨rfl, rfl⟩
          go_simp
          go_wp2_with fail
          refine (lengthJ w8 D D gs8 gb S8 Y T HJ8.out).mono ?_
          rintro e w' ⟨rfl, rfl⟩
          go_simp
          go_wp2_with fail
          refine (done w8 D D gs8 gb S8 Y T HJ8.out (by first | omega | exact hUl) (by have := HSn.out; have := HS8.out; omega) (by have := HYn.out; omega)).mono ?_
          rintro e w5 ⟨ad, cd, rfl, hr5, hb5⟩
          have HR5 := Lib.hid hr5
          have HB5 := Lib.hid hb5
          clear hr5 hb5
          go_simp
          go_wp2_with fail
          refine (beq w5 ad _ (T.length) cd _ T (by omega) (by simpa using HR5.out) (by simpa using HR8.out.below HB5.out)).mono ?_
          rintro e w6 ⟨nq, rfl, rfl⟩
          go_simp
          go_wp2_with fail
          go_ret
          refine ⟨rfl, ?_⟩
          have hb : Below w.heap.size w w5 := BA2.out.trans ((HB8.out.mono (by rw [← HD.out]; exact BA2.out.size)).trans (HB5.out.mono (by have := HB8.out.size; have := BA2.out.size; omega)))
          exact ⟨hb.os, hb.tape, hb.output, hb.size, hb.block⟩
        · have t2 : (x == 10) = false := beq_eq_false_iff_ne.2 hx10
          have t3 : (x != 10) = true := bne_iff_ne.2 hx10
          have HX10 := Lib.hid hx10
          clear hx10
          have hsz : D ≤ wr.heap.size := by have := HB.out.size; rw [HD.out] at this; exact this
          go_wp2_with (first | (at_builtin; refine wpList_append_lies _ rfl (.tmp 74) (.tmp 75) 31 rfl D 5 i0 z0 1 1 Try.underlying31 E1.out E2.out E4.out E5.out E3.out (by decide) _ T.length (byteCells T) rfl (O1.out.alloc _) ⟨wr.heap.size, 0, none⟩ 1 1 [.int .u8 10] rfl rfl (cell_one_new _ _ _) (ones _) (by decide) (by unfold maxLen; omega) (by omega) (by simp; omega) _ rfl ?_; intro gw' cap' w4 hown hgrow hat hltw))
          obtain ⟨hJ4, hW4, hB4⟩ := Wt.push (x := 10) HJ.out O1.out O2.out O3.out O4.out hown hgrow hat
          have HW4 := Lib.hid hW4
          clear HJ7 HB7
          have HJ7 := Lib.hid hJ4
          have HB7 := Lib.hid (HB.out.trans hB4)
          clear hJ4 hW4 hB4 hown hgrow hat hltw
          have HU : Hid (lastOf (T ++ [10]) 0 = 10) := Lib.hid (by rw [lastOf_append]; rfl)
          have hUl : (T ++ [10]).length ≤ 1048576 := by simp; omega
          have t5 : decide ((0 : Int) < (T.length : Int) + 1) = true := decide_eq_true (by omega)
          go_wp2_with fail
          refine (nl_yes w4 D D gs gb S Y T HJ7.out (by omega) (by have := HSn.out; omega) hTp (by rw [HX.out]; exact HX10.out)).mono ?_
          rintro e w8 ⟨rfl, gs8, S8, hS8, hJ8, hgs8, hT8⟩
          have HW8 := Lib.hid (HW4.out.addS hgs8 hT8)
          have HJ8 := Lib.hid hJ8
          have HS8 := Lib.hid hS8
          have HB8 := Lib.hid (HB7.out.trans (HJ7.out.belX hT8))
          clear hJ8 hgs8 hT8 hS8
          obtain ⟨aw, cw, hv, hrow8⟩ := wt_form HW8.out
          simp only [Value.slice.injEq] at hv
          obtain ⟨rfl, hz, rfl⟩ := hv
          clear HW8 hz
          have HR8 := Lib.hid hrow8
          clear hrow8
          go_simp
          go_wp2_with fail
          refine (lastX w8 D D gs8 gb S8 Y (T ++ [10]) HJ8.out 10 HU.out).mono ?_
          rintro e w' ⟨rfl, rfl⟩
          go_simp
          go_wp2_with fail
          refine (lengthJ w8 D D gs8 gb S8 Y (T ++ [10]) HJ8.out).mono ?_
          rintro e w' ⟨rfl, rfl⟩
          go_simp
          go_wp2_with fail
          refine (done w8 D D gs8 gb S8 Y (T ++ [10]) HJ8.out (by first | omega | exact hUl) (by have := HSn.out; have := HS8.out; omega) (by have := HYn.out; omega)).mono ?_
          rintro e w5 ⟨ad, cd, rfl, hr5, hb5⟩
          have HR5 := Lib.hid hr5
          have HB5 := Lib.hid hb5
          clear hr5 hb5
          go_simp
          go_wp2_with fail
          refine (beq w5 ad _ (T.length + 1) cd _ (T ++ [10]) (by omega) (by simpa using HR5.out) (by simpa using HR8.out.below HB5.out)).mono ?_
          rintro e w6 ⟨nq, rfl, rfl⟩
          go_simp
          go_wp2_with fail
          go_ret
          refine ⟨rfl, ?_⟩
          have hb : Below w.heap.size w w5 := BA2.out.trans ((HB8.out.mono (by rw [← HD.out]; exact BA2.out.size)).trans (HB5.out.mono (by have := HB8.out.size; have := BA2.out.size; omega)))
          exact ⟨hb.os, hb.tape, hb.output, hb.size, hb.block⟩
end Go.Proofs.Ythcfdoaeefnemaa.jn
