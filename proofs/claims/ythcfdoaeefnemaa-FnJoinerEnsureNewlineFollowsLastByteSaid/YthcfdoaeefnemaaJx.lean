/-
  The walk of FnJoinerAddStringDoneIsConcat.
-/
import Derived.Test.YthcfdoaeefnemaaJh
namespace Go.Proofs.Ythcfdoaeefnemaa.jn
open Go.ChangeShapes Go.WideShapes Go.ChangeAt Go.RowKit Go.Deep Go.Lib
set_option linter.unusedVariables false
set_option linter.unusedSimpArgs false

theorem info5p : ∃ i z, Try.prog.info? 5 = some i ∧ i.zero = some z ∧ z.cells.size = 1 ∧ i.size = 1 ∧ i.bytes = 1 := by
  obtain ⟨i, h1, h2, h3, h4⟩ := info_parts info5
  exact ⟨i, _, h1, h2, rfl, h3, h4⟩
theorem ones (x : Int) : ∀ u ∈ [Value.int .u8 x], u.oneCell' = true := by simp [Value.oneCell']
theorem wt_new (w : World) (D : Nat) (hD : D ≤ w.heap.size) : Wt ((w.alloc (.cells #[.slice none 0 0, .slice none 0 0, .int .u32 0, .int .u8 0] 30)).alloc (.cells #[] 5)) D w.heap.size none none (.slice (some ⟨w.heap.size + 1, 0, none⟩) 0 0) [] := by
  refine ⟨w.heap.size + 1, 0, rfl, ?_, by omega, by simp, by simp⟩
  have h := World.ownsRow_made (base := D) (e := 5) (size := 1) (w.alloc (.cells #[.slice none 0 0, .slice none 0 0, .int .u32 0, .int .u8 0] 30)) #[] 0 (by simp; omega) (by unfold maxLen; omega) rfl
  simpa [byteCells] using h
theorem wt_form {w : World} {D g : Nat} {gs gb : Option Nat} {v : Value} {T : List UInt8} (h : Wt w D g gs gb v T) : ∃ a cap, v = .slice a T.length cap ∧ Row w a T.length (byteAt T) := by
  obtain ⟨gw, cap, rfl, h1, _⟩ := h
  exact ⟨_, cap, rfl, Wt.row (g := 0) h1⟩

set_option maxRecDepth 100000 in
set_option maxHeartbeats 4000000 in
theorem main3 (w : World) (a0 : Option Addr) (l0 c0 : Nat) (V : Nat → ByteArray) (n0 : a0 = none → l0 = 0 ∧ c0 = 0) (r0 : Row w a0 l0 fun i => .string (V i)) :
    Calls Try.prog 3 #[.slice a0 l0 c0] w (Yes w) := by
  have N0 := Lib.hid n0
  have R0 := Lib.hid r0
  clear n0 r0
  obtain ⟨i0, z0, e1, e2, e3, e4, e5⟩ := info5p
  have E1 := Lib.hid e1
  have E2 := Lib.hid e2
  have E3 := Lib.hid e3
  have E4 := Lib.hid e4
  have E5 := Lib.hid e5
  clear e1 e2 e3 e4 e5
  go_enter Try.func3, Try.ntmps3
  go_wp2_with fail
  refine (bytes7 w a0 l0 c0 V R0.out).mono ?_
  rintro e w' ⟨⟨b, rfl⟩, rfl⟩
  cases b
  · go_simp
    go_wp2_with fail
    go_ret
    exact ⟨rfl, Below.refl _ _⟩
  by_cases g1 : l0 ≤ 65536
  rotate_left
  · go_simp
    go_wp2_with fail
    go_ret
    exact ⟨rfl, Below.refl _ _⟩
  go_simp
  go_wp2_with fail
  refine (size8 w a0 l0 c0 V g1 R0.out).mono ?_
  rintro e w' ⟨⟨sz, rfl, hsz⟩, rfl⟩
  by_cases g2 : sz ≤ 1048576
  rotate_left
  · have t1 : decide ((1048576 : Int) < sz) = true := by simp; omega
    clear g2 hsz
    go_simp
    go_wp2_with fail
    go_ret
    exact ⟨rfl, Below.refl _ _⟩
  have HSz := Lib.hid (hsz g2)
  have t1 : decide ((1048576 : Int) < sz) = false := by simp; omega
  clear hsz g2
  go_simp
  go_wp2_with fail
  refine (clone_all w a0 l0 c0 V (by omega) N0.out R0.out).mono ?_
  rintro e w1 ⟨b0, d0, rfl, hrow1, bel1⟩
  have RA := Lib.hid hrow1
  have BA := Lib.hid bel1
  clear hrow1 bel1 t1
  go_simp
  go_wp2_with fail
  have HJ0 := Lib.hid ((Jn.new w1 w1.heap.size (Nat.le_refl _)).keep (F := fun _ => False) ((Touch.refl _ _).alloc (.cells #[] 5)) (by simp) (by simp) (by simp) (by simp))
  have HW0 := Lib.hid (wt_new w1 w1.heap.size (Nat.le_refl _))
  have HB0 : Hid (Below w1.heap.size w1 ((w1.alloc (.cells #[.slice none 0 0, .slice none 0 0, .int .u32 0, .int .u8 0] 30)).alloc (.cells #[] 5))) := Lib.hid (((Below.refl _ _).alloc (Nat.le_refl _) _).alloc (by simp) _)
  generalize ((w1.alloc (.cells #[.slice none 0 0, .slice none 0 0, .int .u32 0, .int .u8 0] 30)).alloc (.cells #[] 5)) = w2 at *
  generalize hD : w1.heap.size = D at *
  have HD := Lib.hid hD
  clear hD
  go_loopw [4, 5] (fun v i wr => ∃ (k : Nat) (gs : Option Nat) (S : List (ByteArray × Nat)), k ≤ l0 ∧ i = .int .i64 k ∧ S.length = k ∧ Jn wr D D gs none S [] (catTo V k) ∧ Wt wr D D gs none v (catTo V k) ∧ Below D w1 wr) (fun v i _ => l0 - (intOf i).toNat)
  case atStart => exact ⟨0, none, [], by omega, rfl, rfl, HJ0.out, HW0.out, HB0.out⟩
  case round =>
    clear HJ0 HW0 HB0
    obtain ⟨k, gs, S, hk, rfl, hS, hJ, hW, hB⟩ := hrel
    have HS := Lib.hid hS
    have HJ := Lib.hid hJ
    have HW := Lib.hid hW
    have HB := Lib.hid hB
    have hT : (catTo V k).length ≤ 1048576 := by rw [length_catTo]; exact Nat.le_trans (sumTo_mono V hk) HSz.out
    clear hS hJ hW hB
    by_cases hlt : k < l0
    · have hTs : (catTo V k).length + (V k).size ≤ 1048576 := by
        have := sumTo_mono V (show k + 1 ≤ l0 by omega)
        simp only [sumTo] at this
        rw [length_catTo]; have := HSz.out; omega
      obtain ⟨b, off, rfl, hcell⟩ := (RA.out.below (by rw [HD.out]; exact HB.out)) (by omega)
      have c1 := hcell k hlt
      clear hcell
      go_wp2_with fail
      refine (addS wr D D gs none S [] (catTo V k) (V k) HJ.out (by omega) (by omega) (by rw [HS.out]; omega)).mono ?_
      rintro e w3 ⟨rfl, gs', hJ', hgs, hT'⟩
      have HJ3 := Lib.hid hJ'
      have HW3 := Lib.hid (HW.out.addS hgs hT')
      have HB3 := Lib.hid (HB.out.trans (hT'.below (by have := HB.out.size; rw [HD.out] at this; exact this) (by
        rintro j (rfl | e)
        · exact Nat.le_refl _
        · obtain ⟨sv, bv, q1, q2, rfl, _⟩ := HJ.out
          exact (ownBlock_lt q2 e).1)))
      have HSn : Hid ((S ++ [(V k, (catTo V k).length)]).length = k + 1) := Lib.hid (by simp [HS.out])
      clear hJ' hgs hT' c1
      generalize (S ++ [(V k, (catTo V k).length)]) = S' at *
      have HV : Hid ((V k).size ≤ 1048576) := Lib.hid (by omega)
      generalize hs : V k = s at *
      have HVs := Lib.hid hs
      clear hs
      generalize hTk : catTo V k = T at *
      have HTk := Lib.hid hTk
      clear hTk
      obtain ⟨wq, hwq⟩ : ∃ x : World, x = wr := ⟨_, rfl⟩
      clear HJ HW HB
      go_simp
      go_wp2_with fail
      go_loopw [4, 7] (fun v i wr => ∃ (j : Nat), j ≤ s.size ∧ i = .int .i64 j ∧ Jn wr D D gs' none S' [] (T ++ s.data.toList) ∧ Wt wr D D gs' none v (T ++ s.data.toList.take j) ∧ Below D w1 wr) (fun v i _ => s.size - (intOf i).toNat)
      case atStart => exact ⟨0, by omega, rfl, HJ3.out, by simpa using HW3.out, HB3.out⟩
      case round =>
        clear HJ3 HW3 HB3 hwq
        obtain ⟨j, hj, rfl, hJ, hW, hB⟩ := hrel
        have HJ := Lib.hid hJ
        have HB := Lib.hid hB
        clear hJ hB
        by_cases hlt2 : j < s.size
        · obtain ⟨gw, cap, rfl, o1, o2, o3, o4⟩ := hW
          have O1 := Lib.hid o1
          have O2 := Lib.hid o2
          have O3 := Lib.hid o3
          have O4 := Lib.hid o4
          clear o1 o2 o3 o4
          have HX := Lib.hid (bytes_snoc s j hlt2)
          have hlen : (T ++ s.data.toList.take j).length ≤ 1048576 := by simp only [List.length_append, List.length_take, size_list]; omega
          generalize hU : T ++ s.data.toList.take j = U at *
          have HU := Lib.hid hU
          clear hU
          have hsz : D ≤ wr.heap.size := by have := HB.out.size; rw [HD.out] at this; exact this
          go_wp2_with (first | (at_builtin; refine wpList_append_lies _ rfl (.tmp 38) (.tmp 42) 31 rfl D 5 i0 z0 1 1 Try.underlying31 E1.out E2.out E4.out E5.out E3.out (by decide) _ U.length (byteCells U) rfl (O1.out.alloc _) ⟨wr.heap.size, 0, none⟩ 1 1 [.int .u8 (s[j].toNat : Int)] rfl rfl (cell_one_new _ _ _) (ones _) (by decide) (by unfold maxLen; omega) (by omega) (by simp; omega) _ rfl ?_; intro gw' cap' w4 hown hgrow hat hltw))
          obtain ⟨hJ4, hW4, hB4⟩ := Wt.push HJ.out O1.out O2.out O3.out O4.out hown hgrow hat
          have HJ4 := Lib.hid hJ4
          have HW4 := Lib.hid hW4
          have HB4 := Lib.hid (HB.out.trans hB4)
          clear hJ4 hW4 hB4 hown hgrow hat hltw
          go_wp2_with fail
          go_roundw
          case rel => exact ⟨j + 1, by omega, by go_num, HJ4.out, by rw [HX.out, ← List.append_assoc, HU.out]; exact HW4.out, HB4.out⟩
          case measure => simp [intOf]; omega
        · obtain rfl : j = s.size := by omega
          have hW2 := hW
          rw [List.take_of_length_le (by rw [size_list]; exact Nat.le_refl _)] at hW2
          clear hW
          have HW := Lib.hid hW2
          obtain ⟨a', cap', rfl, _⟩ := wt_form hW2
          clear hW2
          have hl2 : (T ++ s.data.toList).length ≤ 1048576 := by simp only [List.length_append, size_list]; omega
          go_wp2_with fail
          refine (lengthJ wr D D gs' none S' [] _ HJ.out).mono ?_
          rintro e w' ⟨rfl, rfl⟩
          generalize hU : (T ++ s.data.toList) = U at *
          have HU := Lib.hid hU
          clear hU
          go_simp
          go_wp2_with fail
          go_roundw
          case rel => exact ⟨k + 1, gs', S', by omega, by go_num, HSn.out, by simp only [catTo]; rw [HTk.out, HVs.out, HU.out]; exact HJ.out, by simp only [catTo]; rw [HTk.out, HVs.out, HU.out]; exact HW.out, HB.out⟩
          case measure => simp [intOf]; omega
    · obtain rfl : k = l0 := by omega
      generalize catTo V k = T at *
      obtain ⟨aw, cw, rfl, hrow⟩ := wt_form HW.out
      have HR := Lib.hid hrow
      clear hrow
      go_wp2_with fail
      refine (done wr D D gs none S [] T HJ.out (by omega) (by rw [HS.out]; omega) (by simp)).mono ?_
      rintro e w5 ⟨ad, cd, rfl, hr5, hb5⟩
      have HR5 := Lib.hid hr5
      have HB5 := Lib.hid hb5
      clear hr5 hb5
      go_simp
      go_wp2_with fail
      refine (beq w5 ad aw T.length cd cw T (by omega) HR5.out (HR.out.below HB5.out)).mono ?_
      rintro e w6 ⟨nq, rfl, rfl⟩
      go_simp
      go_wp2_with fail
      go_ret
      refine ⟨rfl, ?_⟩
      have hb : Below w.heap.size w w5 := BA.out.trans ((HB.out.mono (by rw [← HD.out]; exact BA.out.size)).trans (HB5.out.mono (by have := HB.out.size; have := BA.out.size; omega)))
      exact ⟨hb.os, hb.tape, hb.output, hb.size, hb.block⟩
end Go.Proofs.Ythcfdoaeefnemaa.jn
