/-
  The walk of FnJoinerLastByteIsLastOfOutput.
-/
import Derived.Test.YthcfdoaeefnemaaJc
import Derived.Test.YthcfdoaeefnemaaJx
namespace Go.Proofs.Ythcfdoaeefnemaa.jn
open Go.ChangeShapes Go.WideShapes Go.ChangeAt Go.RowKit Go.Deep Go.Lib
set_option linter.unusedVariables false
set_option linter.unusedSimpArgs false

set_option maxRecDepth 100000 in
set_option maxHeartbeats 8000000 in
theorem main6 (w : World) (a0 : Option Addr) (l0 c0 : Nat) (A : Nat → Option Addr) (L C : Nat → Nat) (Z : Nat → Nat → Int) (a1 : Option Addr) (l1 c1 : Nat) (K : Nat → Bool) (m0 : IsMat .u8 w a0 l0 c0 A L C Z) (k0 : IsBools w a1 l1 c1 K) :
    Calls Try.prog 6 #[.slice a0 l0 c0, .slice a1 l1 c1] w (Yes w) := by
  have M0 := Lib.hid m0
  have K0 := Lib.hid k0
  clear m0 k0
  have hi5 := info5p
  obtain ⟨i0, z0, e1, e2, e3, e4, e5⟩ := hi5
  have E1 := Lib.hid e1
  have E2 := Lib.hid e2
  have E3 := Lib.hid e3
  have E4 := Lib.hid e4
  have E5 := Lib.hid e5
  clear e1 e2 e3 e4 e5
  go_enter Try.func6, Try.ntmps6
  go_wp2_with fail
  refine (bytes23 w a0 l0 c0 A L C a1 l1 c1 M0.out.2.2.1).mono ?_
  rintro e w' ⟨⟨b, rfl⟩, rfl⟩
  cases b
  · go_simp
    go_wp2_with fail
    go_ret
    exact ⟨rfl, Below.refl _ _⟩
  by_cases g1 : l0 ≤ 65536
  rotate_left
  · have t1 : decide ((65536 : Int) < (l0 : Int)) = true := by simp; omega
    clear g1
    go_simp
    go_wp2_with fail
    go_ret
    exact ⟨rfl, Below.refl _ _⟩
  have t1 : decide ((65536 : Int) < (l0 : Int)) = false := by simp; omega
  by_cases g2 : l1 ≤ 65536
  rotate_left
  · have t2 : decide ((65536 : Int) < (l1 : Int)) = true := by simp; omega
    clear g1 g2
    go_simp
    go_wp2_with fail
    go_ret
    exact ⟨rfl, Below.refl _ _⟩
  have t2 : decide ((65536 : Int) < (l1 : Int)) = false := by simp; omega
  go_simp
  go_wp2_with fail
  refine (size17 w a0 l0 c0 A L C a1 l1 c1 g1 g2 M0.out.2.2.1).mono ?_
  rintro e w' ⟨⟨sz, rfl, hsz⟩, rfl⟩
  clear t1 t2
  by_cases g3 : sz ≤ 1048576
  rotate_left
  · have t1 : decide ((1048576 : Int) < sz) = true := by simp; omega
    clear g3 hsz
    go_simp
    go_wp2_with fail
    go_ret
    exact ⟨rfl, Below.refl _ _⟩
  have HSz := Lib.hid (hsz g3)
  have t1 : decide ((1048576 : Int) < sz) = false := by simp; omega
  clear hsz g3
  have HLk : Hid (∀ r, r < l0 → L r ≤ 1048576) := Lib.hid (fun r hr => by
    have := sumL_mono L (show r + 1 ≤ l0 by omega)
    simp only [sumL] at this
    have := HSz.out; omega)
  go_simp
  go_wp2_with fail
  refine (cloneL_all w a0 l0 c0 A L C Z g1 HLk.out M0.out).mono ?_
  rintro e w1 ⟨b0, d0, A', C', rfl, hrow1, hparts, bel1⟩
  have RA := Lib.hid hrow1
  have RP := Lib.hid hparts
  have BA := Lib.hid bel1
  clear hrow1 hparts bel1 t1
  go_simp
  go_wp2_with fail
  refine (clonek_all w1 a1 l1 c1 K (by omega) K0.out.1 (K0.out.2.2.below BA.out)).mono ?_
  rintro e w2 ⟨b1, d1, rfl, hrow2, bel2, _⟩
  have RK := Lib.hid hrow2
  have RA2 := Lib.hid (RA.out.below bel2)
  have RP2 : Hid (∀ r, r < l0 → RowD w2 w2.heap.size (A' r) (L r) (byteAt (part Z L r))) := Lib.hid (fun r hr => Row.toD (((RP.out r hr).below bel2).congr (fun i hi => (byteAt_part hi ((M0.out.2.2.2 r hr).2.2.2 i)).symm)))
  have BA2 := Lib.hid (BA.out.trans (bel2.mono BA.out.size))
  clear hrow2 bel2 RA RP BA
  go_simp
  go_wp2_with fail
  have HJ0 := Lib.hid (Jn.new w2 w2.heap.size (Nat.le_refl _))
  have HB0 : Hid (Below w2.heap.size w2 (w2.alloc (.cells #[.slice none 0 0, .slice none 0 0, .int .u32 0, .int .u8 0] 30))) := Lib.hid ((Below.refl _ _).alloc (Nat.le_refl _) _)
  generalize w2.alloc (.cells #[.slice none 0 0, .slice none 0 0, .int .u32 0, .int .u8 0] 30) = w9 at *
  generalize hD : w2.heap.size = D at *
  have HD := Lib.hid hD
  clear hD
  refine (lastX w9 D D none none [] [] [] HJ0.out 0 rfl).mono ?_
  rintro e w' ⟨rfl, rfl⟩
  go_simp
  go_wp2_with fail
  go_loopw [6, 7] (fun v i wr => ∃ (k : Nat) (gs gb : Option Nat) (S : List (ByteArray × Nat)) (Y : List BItem), k ≤ l0 ∧ i = .int .i64 k ∧ v = .int .u8 (lastOf (catP Z L k) 0) ∧ S.length ≤ k ∧ Y.length ≤ k ∧ Jn wr D D gs gb S Y (catP Z L k) ∧ Below D w2 wr) (fun v i _ => l0 - (intOf i).toNat)
  case atStart => exact ⟨0, none, none, [], [], by omega, rfl, rfl, by simp, by simp, HJ0.out, HB0.out⟩
  case round =>
    clear HJ0 HB0
    obtain ⟨k, gs, gb, S, Y, hk, rfl, rfl, hS, hY, hJ, hB⟩ := hrel
    have HSn := Lib.hid hS
    have HYn := Lib.hid hY
    have HJ := Lib.hid hJ
    have HB := Lib.hid hB
    have hT : (catP Z L k).length ≤ 1048576 := by rw [length_catP]; exact Nat.le_trans (sumL_mono L hk) HSz.out
    clear hS hY hJ hB
    by_cases hlt : k < l0
    · have hTs : (catP Z L k).length + L k ≤ 1048576 := by
        have := sumL_mono L (show k + 1 ≤ l0 by omega)
        simp only [sumL] at this
        rw [length_catP]; have := HSz.out; omega
      have hLk := HLk.out k hlt
      have HTk : Hid (catP Z L (k + 1) = catP Z L k ++ part Z L k) := Lib.hid rfl
      generalize catP Z L k = T at *
      have RPk : Hid (RowD wr D (A' k) (L k) (byteAt (part Z L k))) := Lib.hid ((RP2.out k hlt).below HB.out (Nat.le_refl _))
      obtain ⟨b, off, e, hcell⟩ := (RA2.out.below (by rw [HD.out]; exact HB.out)) (by omega)
      cases e
      have c1 := hcell k hlt
      clear hcell
      go_wp2_with fail
      refine (kind20 wr b1 l1 d1 K k (by omega) (RK.out.below (by rw [HD.out]; exact HB.out))).mono ?_
      rintro e w' ⟨rfl, rfl⟩
      clear c1
      cases hb : (if k < l1 then K k else false) with
      | true =>
        have HKB := Lib.hid hb
        clear hb
        have hcv := fun nq => convX (wr.drewN nq) (A' k) (L k) (C' k) (part Z L k) (length_part Z L k) (show Row (wr.drewN nq) (A' k) (L k) (byteAt (part Z L k)) from (RPk.out).row)
        have hcv0 := hcv 0
        rw [World.drewN_zero] at hcv0
        clear hcv
        go_simp
        go_wp2_with fail
        refine (addX wr D D gs gb S Y T (part Z L k) HJ.out (by omega) (by rw [length_part]; omega) (by have := HSn.out; omega)).mono ?_
        rintro e w3 ⟨rfl, gs', hJ', hgs, hT'⟩
        clear hcv0
        have HJ3 : Hid (Jn w3 D D gs' gb (S ++ [(⟨(part Z L k).toArray⟩, T.length)]) Y (T ++ part Z L k)) := Lib.hid hJ'
        have HB3 := Lib.hid (HB.out.trans (HJ.out.belX hT'))
        have HSm : Hid ((S ++ [((⟨(part Z L k).toArray⟩ : ByteArray), T.length)]).length ≤ k + 1) := Lib.hid (by have := HSn.out; simp; omega)
        have HYm : Hid (Y.length ≤ k + 1) := Lib.hid (by have := HYn.out; omega)
        clear hJ' hgs hT'
        generalize (S ++ [((⟨(part Z L k).toArray⟩ : ByteArray), T.length)]) = S' at *
        obtain ⟨Y', hY'⟩ : ∃ Y', Y' = Y := ⟨_, rfl⟩
        subst hY'
        obtain ⟨gb', hgb'⟩ : ∃ gb', gb' = gb := ⟨_, rfl⟩
        subst hgb'
        have HXl : Hid (∃ x : Int, lastOf (T ++ part Z L k) 0 = x) := Lib.hid ⟨_, rfl⟩
        obtain ⟨x, hx⟩ := HXl.out
        clear HXl
        have HX := Lib.hid hx
        clear hx
        by_cases hL0 : L k = 0
        · have hxx : lastOf T 0 = x := by
            rw [← HX.out, lastOf_append, lastOf_nil (s := part Z L k) (by rw [length_part]; exact hL0)]
          rw [hxx]
          clear hxx
          have HL0 := Lib.hid hL0
          rw [hL0]
          clear hL0
          go_simp
          go_wp2_with fail
          refine (lastX w3 D D gs' gb' S' Y' _ HJ3.out x HX.out).mono ?_
          rintro e w' ⟨rfl, rfl⟩
          go_simp
          go_wp2_with fail
          go_roundw
          case rel => exact ⟨k + 1, gs', gb', S', Y', by omega, by go_num, by rw [← HX.out, HTk.out], HSm.out, HYm.out, by rw [HTk.out]; exact HJ3.out, HB3.out⟩
          case measure => simp [intOf]; omega
        · obtain ⟨pb, poff, hpa, hpD, hpc⟩ := RPk.out (by omega)
          have c2 : w3.cell? ⟨pb, poff + (L k - 1), none⟩ = some (.int .u8 x) := by
            have h1 : wr.cell? ⟨pb, poff + (L k - 1), none⟩ = some (byteAt (part Z L k) (L k - 1)) := hpc _ (by omega)
            rw [HB3.out.cell (p := ⟨pb, poff + (L k - 1), none⟩) hpD, ← HB.out.cell (p := ⟨pb, poff + (L k - 1), none⟩) hpD, h1]
            have : x = (((part Z L k)[L k - 1]?.getD 0).toNat : Int) := by
              rw [← HX.out, lastOf_append, lastOf_cons (length_part Z L k) (by omega)]
            rw [this]
            simp [byteAt]
          have HPA := Lib.hid hpa
          rw [hpa]
          have t1 : decide ((0 : Int) < (L k : Int)) = true := by simp; omega
          have hLp : 0 < L k := by omega
          have hLq : L k ≤ 1048576 := by omega
          clear hpc hpa hL0
          go_simp
          go_wp2_with fail
          refine (lastX w3 D D gs' gb' S' Y' _ HJ3.out x HX.out).mono ?_
          rintro e w' ⟨rfl, rfl⟩
          go_simp
          go_wp2_with fail
          go_roundw
          case rel => exact ⟨k + 1, gs', gb', S', Y', by omega, by go_num, by rw [← HX.out, HTk.out], HSm.out, HYm.out, by rw [HTk.out]; exact HJ3.out, HB3.out⟩
          case measure => simp [intOf]; omega
      | false =>
        have HKB := Lib.hid hb
        clear hb
        go_simp
        go_wp2_with fail
        refine (addY wr D D gs gb S Y T (A' k) (L k) (C' k) (part Z L k) HJ.out (length_part Z L k) RPk.out (by omega) (by omega) (by have := HYn.out; omega)).mono ?_
        rintro e w3 ⟨rfl, gb', hJ', hgs, hT'⟩
        have HJ3 : Hid (Jn w3 D D gs gb' S (Y ++ [⟨A' k, L k, C' k, part Z L k, T.length⟩]) (T ++ part Z L k)) := Lib.hid hJ'
        have HB3 := Lib.hid (HB.out.trans (HJ.out.belY hT'))
        have HSm : Hid (S.length ≤ k + 1) := Lib.hid (by have := HSn.out; omega)
        have HYm : Hid ((Y ++ [(⟨A' k, L k, C' k, part Z L k, T.length⟩ : BItem)]).length ≤ k + 1) := Lib.hid (by have := HYn.out; simp; omega)
        clear hJ' hgs hT'
        generalize (Y ++ [(⟨A' k, L k, C' k, part Z L k, T.length⟩ : BItem)]) = Y' at *
        obtain ⟨S', hS'⟩ : ∃ S', S' = S := ⟨_, rfl⟩
        subst hS'
        obtain ⟨gs', hgs'⟩ : ∃ gs', gs' = gs := ⟨_, rfl⟩
        subst hgs'
        have HXl : Hid (∃ x : Int, lastOf (T ++ part Z L k) 0 = x) := Lib.hid ⟨_, rfl⟩
        obtain ⟨x, hx⟩ := HXl.out
        clear HXl
        have HX := Lib.hid hx
        clear hx
        by_cases hL0 : L k = 0
        · have hxx : lastOf T 0 = x := by
            rw [← HX.out, lastOf_append, lastOf_nil (s := part Z L k) (by rw [length_part]; exact hL0)]
          rw [hxx]
          clear hxx
          have HL0 := Lib.hid hL0
          rw [hL0]
          clear hL0
          go_simp
          go_wp2_with fail
          refine (lastX w3 D D gs' gb' S' Y' _ HJ3.out x HX.out).mono ?_
          rintro e w' ⟨rfl, rfl⟩
          go_simp
          go_wp2_with fail
          go_roundw
          case rel => exact ⟨k + 1, gs', gb', S', Y', by omega, by go_num, by rw [← HX.out, HTk.out], HSm.out, HYm.out, by rw [HTk.out]; exact HJ3.out, HB3.out⟩
          case measure => simp [intOf]; omega
        · obtain ⟨pb, poff, hpa, hpD, hpc⟩ := RPk.out (by omega)
          have c2 : w3.cell? ⟨pb, poff + (L k - 1), none⟩ = some (.int .u8 x) := by
            have h1 : wr.cell? ⟨pb, poff + (L k - 1), none⟩ = some (byteAt (part Z L k) (L k - 1)) := hpc _ (by omega)
            rw [HB3.out.cell (p := ⟨pb, poff + (L k - 1), none⟩) hpD, ← HB.out.cell (p := ⟨pb, poff + (L k - 1), none⟩) hpD, h1]
            have : x = (((part Z L k)[L k - 1]?.getD 0).toNat : Int) := by
              rw [← HX.out, lastOf_append, lastOf_cons (length_part Z L k) (by omega)]
            rw [this]
            simp [byteAt]
          have HPA := Lib.hid hpa
          rw [hpa]
          have t1 : decide ((0 : Int) < (L k : Int)) = true := by simp; omega
          have hLp : 0 < L k := by omega
          have hLq : L k ≤ 1048576 := by omega
          clear hpc hpa hL0
          go_simp
          go_wp2_with fail
          refine (lastX w3 D D gs' gb' S' Y' _ HJ3.out x HX.out).mono ?_
          rintro e w' ⟨rfl, rfl⟩
          go_simp
          go_wp2_with fail
          go_roundw
          case rel => exact ⟨k + 1, gs', gb', S', Y', by omega, by go_num, by rw [← HX.out, HTk.out], HSm.out, HYm.out, by rw [HTk.out]; exact HJ3.out, HB3.out⟩
          case measure => simp [intOf]; omega
    · obtain rfl : k = l0 := by omega
      generalize catP Z L k = T at *
      go_wp2_with fail
      refine (done wr D D gs gb S Y T HJ.out (by omega) (by have := HSn.out; omega) (by have := HYn.out; omega)).mono ?_
      rintro e w5 ⟨ad, cd, rfl, hr5, hb5⟩
      have HR5 := Lib.hid hr5
      have HB5 := Lib.hid hb5
      have HJ5 := Lib.hid (HJ.out.keep (touch_of_below hb5 (fun _ => False)) (by simp) (by simp) (by simp) (by simp))
      have HBW : Hid (Below w.heap.size w w5) := Lib.hid (BA2.out.trans ((HB.out.mono (by rw [← HD.out]; exact BA2.out.size)).trans (HB5.out.mono (by have := HB.out.size; have := BA2.out.size; omega))))
      clear hr5 hb5
      by_cases hT0 : T.length = 0
      · obtain rfl : T = [] := List.eq_nil_of_length_eq_zero hT0
        clear hT0
        simp only [List.length_nil]
        go_simp
        go_wp2_with fail
        refine (lastX w5 D D gs gb S Y [] HJ5.out 0 rfl).mono ?_
        rintro e w' ⟨rfl, rfl⟩
        go_simp
        go_wp2_with fail
        go_ret
        exact ⟨rfl, HBW.out⟩
      · obtain ⟨b, off, rfl, hc5⟩ := HR5.out (by omega)
        obtain ⟨x, hx⟩ : ∃ x : Int, lastOf T 0 = x := ⟨_, rfl⟩
        have HX := Lib.hid hx
        have c2 : w5.cell? ⟨b, off + (T.length - 1), none⟩ = some (.int .u8 x) := by
          rw [hc5 _ (by omega), ← hx, lastOf_cons (n := T.length) rfl (by omega)]
          simp [byteAt]
        clear hx hc5
        have t1 : ((T.length : Int) == 0) = false := by rw [beq_eq_false_iff_ne]; omega
        have hTp : 0 < T.length := by omega
        have i1 : (0 : Int) ≤ (T.length : Int) - 1 := by omega
        have i2 : (T.length : Int) - 1 < (T.length : Int) := by omega
        have i3 : ((T.length : Int) - 1).toNat = T.length - 1 := by omega
        clear hT0
        go_simp
        go_wp2_with fail
        go_quiet ((go_at_call 15; exact Calls.quiet_of_same ((lastX (w5.drewN _) D D gs gb S Y T (show Jn (w5.drewN _) D D gs gb S Y T from HJ5.out) x HX.out).mono (fun e w' h => ⟨h.1, h.2.symm⟩))))
        go_wp2_with fail
        go_ret
        exact ⟨rfl, ⟨HBW.out.os, HBW.out.tape, HBW.out.output, HBW.out.size, HBW.out.block⟩⟩
end Go.Proofs.Ythcfdoaeefnemaa.jn
