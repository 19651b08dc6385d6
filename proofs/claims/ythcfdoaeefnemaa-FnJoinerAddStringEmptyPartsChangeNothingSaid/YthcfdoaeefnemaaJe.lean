/-
  The walk of FnJoinerAddStringEmptyPartsChangeNothing.
-/
import Derived.Test.YthcfdoaeefnemaaJh
namespace Go.Proofs.Ythcfdoaeefnemaa.jn
open Go.ChangeShapes Go.WideShapes Go.ChangeAt Go.RowKit Go.Deep Go.Lib
set_option linter.unusedVariables false
set_option linter.unusedSimpArgs false

/-- Two Joiners that lie apart. -/
def J2 (w : World) (D ga gb : Nat) (sa sb : Option Nat) (Sa Sb : List (ByteArray × Nat)) (Ta Tb : List UInt8) : Prop :=
  Jn w D ga sa none Sa [] Ta ∧ Jn w D gb sb none Sb [] Tb ∧ ga ≠ gb ∧ sa ≠ some gb ∧ sb ≠ some ga ∧ ∀ k, sa = some k → sb ≠ some k
section
variable {w w' : World} {D ga gb : Nat} {sa sb s' : Option Nat} {Sa Sb S' : List (ByteArray × Nat)} {Ta Tb T' : List UInt8}
theorem Jn.gs_lt (h : Jn w D ga sa none Sa [] Ta) : ∀ k, sa = some k → D ≤ k ∧ k < w.heap.size := by
  obtain ⟨sv, bv, a1, a2, rfl, _⟩ := h
  exact fun k e => ownBlock_lt a2 e
theorem Jn.gD (h : Jn w D ga sa none Sa [] Ta) : D ≤ ga := by
  obtain ⟨sv, bv, a1, a2, _, _, _, _, _, _, h, _⟩ := h
  exact h
theorem Jn.belS (h : Jn w D ga sa none Sa [] Ta) (hT : Touch (fun j => j = ga ∨ sa = some j) w w') : Below D w w' :=
  hT.below (by have := h.gD; have := h.lt; omega) (by
    rintro k (rfl | e)
    · exact h.gD
    · exact (h.gs_lt k e).1)
theorem J2.addA (h : J2 w D ga gb sa sb Sa Sb Ta Tb) (hJ : Jn w' D ga s' none S' [] T') (hs : s' = sa ∨ ∃ k, s' = some k ∧ w.heap.size ≤ k) (hT : Touch (fun j => j = ga ∨ sa = some j) w w') : J2 w' D ga gb s' sb S' Sb T' Tb := by
  obtain ⟨h1, h2, h3, h4, h5, h6⟩ := h
  have hk := h2.keep hT (by rintro (e | e)
                            · exact h3 e.symm
                            · exact h4 e) (by rintro k e (rfl | e2)
                                              · exact h5 e
                                              · exact h6 k e2 e) (by simp) (by
    rintro k (rfl | e)
    · exact h1.gD
    · exact (h1.gs_lt k e).1)
  refine ⟨hJ, hk, h3, ?_, h5, ?_⟩
  · rcases hs with rfl | ⟨k, rfl, hk⟩
    · exact h4
    · intro e; cases e; have := h2.lt; omega
  · rcases hs with rfl | ⟨k, rfl, hk⟩
    · exact h6
    · intro k' e e2; cases e; have := (h2.gs_lt _ e2).2; omega
theorem J2.addB (h : J2 w D ga gb sa sb Sa Sb Ta Tb) (hJ : Jn w' D gb s' none S' [] T') (hs : s' = sb ∨ ∃ k, s' = some k ∧ w.heap.size ≤ k) (hT : Touch (fun j => j = gb ∨ sb = some j) w w') : J2 w' D ga gb sa s' Sa S' Ta T' := by
  obtain ⟨h1, h2, h3, h4, h5, h6⟩ := h
  have hk := h1.keep hT (by rintro (e | e)
                            · exact h3 e
                            · exact h5 e) (by rintro k e (rfl | e2)
                                              · exact h4 e
                                              · exact h6 k e e2) (by simp) (by
    rintro k (rfl | e)
    · exact h2.gD
    · exact (h2.gs_lt k e).1)
  refine ⟨hk, hJ, h3, h4, ?_, ?_⟩
  · rcases hs with rfl | ⟨k, rfl, hk⟩
    · exact h5
    · intro e; cases e; have := h1.lt; omega
  · rcases hs with rfl | ⟨k, rfl, hk⟩
    · exact h6
    · intro k' e e2; cases e2; have := (h1.gs_lt _ e).2; omega
end
theorem j2_new (w : World) : J2 ((w.alloc (.cells #[.slice none 0 0, .slice none 0 0, .int .u32 0, .int .u8 0] 30)).alloc (.cells #[.slice none 0 0, .slice none 0 0, .int .u32 0, .int .u8 0] 30)) w.heap.size w.heap.size (w.heap.size + 1) none none [] [] [] [] := by
  refine ⟨(Jn.new w w.heap.size (Nat.le_refl _)).keep (F := fun _ => False) ((Touch.refl _ _).alloc _) (by simp) (by simp) (by simp) (by simp), ?_, by omega, by simp, by simp, by simp⟩
  have h := Jn.new (w.alloc (.cells #[.slice none 0 0, .slice none 0 0, .int .u32 0, .int .u8 0] 30)) w.heap.size (by simp)
  simpa using h

set_option maxRecDepth 100000 in
set_option maxHeartbeats 4000000 in
theorem main4 (w : World) (a0 : Option Addr) (l0 c0 : Nat) (V : Nat → ByteArray) (n0 : a0 = none → l0 = 0 ∧ c0 = 0) (r0 : Row w a0 l0 fun i => .string (V i)) :
    Calls Try.prog 4 #[.slice a0 l0 c0] w (Yes w) := by
  have N0 := Lib.hid n0
  have R0 := Lib.hid r0
  clear n0 r0
  go_enter Try.func4, Try.ntmps4
  go_wp2_with fail
  refine (bytes14 w a0 l0 c0 V R0.out).mono ?_
  rintro e w' ⟨⟨b, rfl⟩, rfl⟩
  cases b
  · go_simp
    go_wp2_with fail
    go_ret
    exact ⟨rfl, Below.refl _ _⟩
  by_cases g1 : l0 ≤ 65536
  rotate_left
  · go_simp
    go_wp2_with fail
    go_ret
    exact ⟨rfl, Below.refl _ _⟩
  go_simp
  go_wp2_with fail
  refine (size8 w a0 l0 c0 V g1 R0.out).mono ?_
  rintro e w' ⟨⟨sz, rfl, hsz⟩, rfl⟩
  by_cases g2 : sz ≤ 1048576
  rotate_left
  · have t1 : decide ((1048576 : Int) < sz) = true := by simp; omega
    clear g2 hsz
    go_simp
    go_wp2_with fail
    go_ret
    exact ⟨rfl, Below.refl _ _⟩
  have HSz := Lib.hid (hsz g2)
  have t1 : decide ((1048576 : Int) < sz) = false := by simp; omega
  clear hsz g2
  go_simp
  go_wp2_with fail
  refine (clone_all w a0 l0 c0 V (by omega) N0.out R0.out).mono ?_
  rintro e w1 ⟨b0, d0, rfl, hrow1, bel1⟩
  have RA := Lib.hid hrow1
  have BA := Lib.hid bel1
  clear hrow1 bel1 t1
  go_simp
  go_wp2_with fail
  have HJ0 := Lib.hid (j2_new w1)
  have HB0 : Hid (Below w1.heap.size w1 ((w1.alloc (.cells #[.slice none 0 0, .slice none 0 0, .int .u32 0, .int .u8 0] 30)).alloc (.cells #[.slice none 0 0, .slice none 0 0, .int .u32 0, .int .u8 0] 30))) := Lib.hid (((Below.refl _ _).alloc (Nat.le_refl _) _).alloc (by simp) _)
  generalize ((w1.alloc (.cells #[.slice none 0 0, .slice none 0 0, .int .u32 0, .int .u8 0] 30)).alloc (.cells #[.slice none 0 0, .slice none 0 0, .int .u32 0, .int .u8 0] 30)) = w2 at *
  generalize hD : w1.heap.size = D at *
  have HD := Lib.hid hD
  clear hD
  go_loopw [5] (fun i wr => ∃ (k : Nat) (sa sb : Option Nat) (Sa Sb : List (ByteArray × Nat)), k ≤ l0 ∧ i = .int .i64 k ∧ (Sa.length = k ∧ Sb.length = 2 * k) ∧ J2 wr D D (D + 1) sa sb Sa Sb (catTo V k) (catTo V k) ∧ Below D w1 wr) (fun i _ => l0 - (intOf i).toNat)
  case atStart => exact ⟨0, none, none, [], [], by omega, rfl, ⟨rfl, rfl⟩, HJ0.out, HB0.out⟩
  case round =>
    clear HJ0 HB0
    obtain ⟨k, sa, sb, Sa, Sb, hk, rfl, hS, hJ, hB⟩ := hrel
    have HS := Lib.hid hS
    have HJ := Lib.hid hJ
    have HJb := Lib.hid hB
    have hT : (catTo V k).length ≤ 1048576 := by rw [length_catTo]; exact Nat.le_trans (sumTo_mono V hk) HSz.out
    clear hS hJ hB
    by_cases hlt : k < l0
    · have hTs : (catTo V k).length + (V k).size ≤ 1048576 := by
        have := sumTo_mono V (show k + 1 ≤ l0 by omega)
        simp only [sumTo] at this
        rw [length_catTo]; have := HSz.out; omega
      have HTk : Hid (catTo V (k + 1) = catTo V k ++ (V k).data.toList) := Lib.hid rfl
      generalize catTo V k = T at *
      go_wp2_with fail
      refine (addS wr _ _ _ none _ [] _ _ HJ.out.2.1 (by omega) (by simp [ByteArray.size]) (by rw [HS.out.2]; omega)).mono ?_
      rintro e w3 ⟨rfl, s3, hJ', hgs, hT'⟩
      rw [show T ++ ({ data := #[] } : ByteArray).data.toList = T by simp] at hJ'
      have HJ3 := Lib.hid (HJ.out.addB hJ' hgs hT')
      have HJ3b := Lib.hid (HJb.out.trans (HJ.out.2.1.belS hT'))
      clear hJ' hgs hT' HJ HJb
      generalize hSb : (Sb ++ [(({ data := #[] } : ByteArray), T.length)]) = Sb1 at *
      have HSb : Hid (Sb1.length = 2 * k + 1) := Lib.hid (by rw [← hSb]; simp [HS.out.2])
      clear hSb
      go_simp
      go_wp2_with fail
      refine (lengthJ w3 _ _ _ none _ [] _ HJ3.out.1).mono ?_
      rintro e w' ⟨rfl, rfl⟩
      go_simp
      go_wp2_with fail
      refine (lengthJ w3 _ _ _ none _ [] _ HJ3.out.2.1).mono ?_
      rintro e w' ⟨rfl, rfl⟩
      go_simp
      go_wp2_with fail
      refine (lastJ w3 _ _ _ none _ [] _ HJ3.out.1).mono ?_
      rintro e w' ⟨rfl, rfl⟩
      go_simp
      go_wp2_with fail
      refine (lastJ w3 _ _ _ none _ [] _ HJ3.out.2.1).mono ?_
      rintro e w' ⟨rfl, rfl⟩
      go_simp
      go_wp2_with fail
      obtain ⟨b, off, rfl, hcell⟩ := (RA.out.below (by rw [HD.out]; exact HJ3b.out)) (by omega)
      have c1 := hcell k hlt
      clear hcell
      go_wp2_with fail
      refine (addS w3 _ _ _ none _ [] _ (V k) HJ3.out.1 (by omega) (by omega) (by rw [HS.out.1]; omega)).mono ?_
      rintro e w4 ⟨rfl, s4, hJ', hgs, hT'⟩
      have HJ4 := Lib.hid (HJ3.out.addA hJ' hgs hT')
      have HJ4b := Lib.hid (HJ3b.out.trans (HJ3.out.1.belS hT'))
      clear hJ' hgs hT' HJ3 HJ3b c1
      generalize hSa : (Sa ++ [(V k, T.length)]) = Sa1 at *
      have HSa : Hid (Sa1.length = k + 1) := Lib.hid (by rw [← hSa]; simp [HS.out.1])
      clear hSa
      obtain ⟨b', off', e', hcell⟩ := (RA.out.below (by rw [HD.out]; exact HJ4b.out)) (by omega)
      cases e'
      have c1 := hcell k hlt
      clear hcell
      go_simp
      go_wp2_with fail
      refine (addS w4 _ _ _ none _ [] _ (V k) HJ4.out.2.1 (by omega) (by omega) (by rw [HSb.out]; omega)).mono ?_
      rintro e w5 ⟨rfl, s5, hJ', hgs, hT'⟩
      have HJ5 := Lib.hid (HJ4.out.addB hJ' hgs hT')
      have HJ5b := Lib.hid (HJ4b.out.trans (HJ4.out.2.1.belS hT'))
      clear hJ' hgs hT' HJ4 HJ4b c1
      generalize hSb : (Sb1 ++ [(V k, T.length)]) = Sb2 at *
      have HSb2 : Hid (Sb2.length = 2 * k + 2) := Lib.hid (by rw [← hSb]; simp [HSb.out])
      clear hSb
      generalize hU : (T ++ (V k).data.toList) = U at *
      have HU := Lib.hid hU
      clear hU
      go_simp
      go_wp2_with fail
      refine (lengthJ w5 _ _ _ none _ [] _ HJ5.out.1).mono ?_
      rintro e w' ⟨rfl, rfl⟩
      go_simp
      go_wp2_with fail
      refine (lengthJ w5 _ _ _ none _ [] _ HJ5.out.2.1).mono ?_
      rintro e w' ⟨rfl, rfl⟩
      go_simp
      go_wp2_with fail
      refine (lastJ w5 _ _ _ none _ [] _ HJ5.out.1).mono ?_
      rintro e w' ⟨rfl, rfl⟩
      go_simp
      go_wp2_with fail
      refine (lastJ w5 _ _ _ none _ [] _ HJ5.out.2.1).mono ?_
      rintro e w' ⟨rfl, rfl⟩
      go_simp
      go_wp2_with fail
      go_roundw
      case rel => exact ⟨k + 1, _, _, Sa1, Sb2, by omega, by go_num, ⟨HSa.out, by have := HSb2.out; omega⟩, by rw [HTk.out]; exact HJ5.out, HJ5b.out⟩
      case measure => simp [intOf]; omega
    · obtain rfl : k = l0 := by omega
      generalize catTo V k = T at *
      go_wp2_with fail
      refine (addS wr _ _ _ none _ [] _ _ HJ.out.2.1 (by omega) (by simp [ByteArray.size]) (by rw [HS.out.2]; omega)).mono ?_
      rintro e w3 ⟨rfl, s3, hJ', hgs, hT'⟩
      rw [show T ++ ({ data := #[] } : ByteArray).data.toList = T by simp] at hJ'
      have HJ3 := Lib.hid (HJ.out.addB hJ' hgs hT')
      have HJ3b := Lib.hid (HJb.out.trans (HJ.out.2.1.belS hT'))
      clear hJ' hgs hT' HJ HJb
      generalize hSb : (Sb ++ [(({ data := #[] } : ByteArray), T.length)]) = Sb1 at *
      have HSb : Hid (Sb1.length = 2 * k + 1) := Lib.hid (by rw [← hSb]; simp [HS.out.2])
      clear hSb
      go_simp
      go_wp2_with fail
      refine (lengthJ w3 _ _ _ none _ [] _ HJ3.out.1).mono ?_
      rintro e w' ⟨rfl, rfl⟩
      go_simp
      go_wp2_with fail
      refine (lengthJ w3 _ _ _ none _ [] _ HJ3.out.2.1).mono ?_
      rintro e w' ⟨rfl, rfl⟩
      go_simp
      go_wp2_with fail
      refine (lastJ w3 _ _ _ none _ [] _ HJ3.out.1).mono ?_
      rintro e w' ⟨rfl, rfl⟩
      go_simp
      go_wp2_with fail
      refine (lastJ w3 _ _ _ none _ [] _ HJ3.out.2.1).mono ?_
      rintro e w' ⟨rfl, rfl⟩
      go_simp
      go_wp2_with fail
      refine (done w3 _ _ _ none _ [] T HJ3.out.1 (by omega) (by rw [HS.out.1]; omega) (by simp)).mono ?_
      rintro e w5 ⟨ad, cd, rfl, hr5, hb5⟩
      have HR5 := Lib.hid hr5
      have HB5 := Lib.hid hb5
      have HJ6 := Lib.hid (HJ3.out.2.1.keep (touch_of_below hb5 (fun _ => False)) (by simp) (by simp) (by simp) (by simp))
      clear hr5 hb5
      go_simp
      go_wp2_with fail
      refine (done w5 _ _ _ none _ [] T HJ6.out (by omega) (by rw [HSb.out]; omega) (by simp)).mono ?_
      rintro e w6 ⟨aw, cw, rfl, hr6, hb6⟩
      have HR6 := Lib.hid hr6
      have HB6 := Lib.hid hb6
      clear hr6 hb6
      go_simp
      go_wp2_with fail
      refine (beq w6 ad aw T.length cd cw T (by omega) (HR5.out.below HB6.out) HR6.out).mono ?_
      rintro e w7 ⟨nq, rfl, rfl⟩
      go_simp
      go_wp2_with fail
      go_ret
      refine ⟨rfl, ?_⟩
      have hb : Below w.heap.size w w6 := BA.out.trans ((HJ3b.out.mono (by rw [← HD.out]; exact BA.out.size)).trans ((HB5.out.mono (by have := HJ3b.out.size; have := BA.out.size; omega)).trans (HB6.out.mono (by have := HB5.out.size; have := HJ3b.out.size; have := BA.out.size; omega))))
      exact ⟨hb.os, hb.tape, hb.output, hb.size, hb.block⟩
end Go.Proofs.Ythcfdoaeefnemaa.jn
