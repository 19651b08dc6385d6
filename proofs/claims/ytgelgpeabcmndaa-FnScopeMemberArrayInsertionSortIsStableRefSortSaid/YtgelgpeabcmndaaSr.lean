/-
  The sorting statement walked.
-/
import Derived.Test.YtgelgpeabcmndaaSq
namespace Go.Proofs.Ytgelgpeabcmndaa.sp
open Go.ChangeShapes Go.WideShapes Go.ChangeAt Go.RowKit Go.Deep Go.Proofs.Ytgelgpeabcmndaa.sm Go.Proofs.Ytgelgpeabcmndaa.so
set_option linter.unusedVariables false
set_option linter.unusedSimpArgs false

theorem keepK {wz : World} {kb b1 o1 b2 o2 : Nat} {v1 v2 : Value} (c1 : wz.cell? ⟨b1, o1, none⟩ = some v1) (c2 : wz.cell? ⟨b2, o2, none⟩ = some v2) (h1 : b1 < kb) (h2 : b2 < kb) : ∀ w', Below kb wz w' → w'.cell? ⟨b1, o1, none⟩ = some v1 ∧ w'.cell? ⟨b2, o2, none⟩ = some v2 ∧ Below kb wz w' :=
  fun w' hb => ⟨(hb.cell (p := ⟨b1, o1, none⟩) h1).trans c1, (hb.cell (p := ⟨b2, o2, none⟩) h2).trans c2, hb⟩
set_option maxRecDepth 100000 in
set_option maxHeartbeats 8000000 in
theorem law53 (w : World) (a b c : Option Addr) (la lb lc ca cb cc : Nat) (I S L : Nat → Int) (hA : IsInts .u32 w a la ca I) (hB : IsInts .u32 w b lb cb S) (hC : IsInts .i32 w c lc cc L) :
    Calls Try.prog 4 #[.slice a la ca, .slice b lb cb, .slice c lc cc] w fun e w' => e = .returned (.bool true) ∧ Below w.heap.size w w' := by
  have hla := hA.2.1
  have hlb := hB.2.1
  have hlc := hC.2.1
  by_cases h0 : ¬ (la + lb + lc ≤ 1048576)
  · have H11 := Lib.hid (bytes11 a b c la lb lc ca cb cc false (by simpa using h0) hla hlb hlc w)
    clear hla hlb hlc h0 hA hB hC
    go_enter Try.func4, Try.ntmps4
    go_wp2_with (go_at_call 11; (with_reducible refine H11.out.mono ?_); rintro e w' ⟨rfl, rfl⟩)
    go_ret
    exact ⟨rfl, Below.refl _ _⟩
  have H11 := Lib.hid (bytes11 a b c la lb lc ca cb cc true (by simp; omega) hla hlb hlc w)
  have HA := Lib.hid hA
  have HB := Lib.hid hB
  have HC := Lib.hid hC
  clear hA hB hC hla hlb hlc
  by_cases h1 : 1024 < la
  · go_enter Try.func4, Try.ntmps4
    go_wp2_with (go_at_call 11; (with_reducible refine H11.out.mono ?_); rintro e w' ⟨rfl, rfl⟩)
    go_ret
    exact ⟨rfl, Below.refl _ _⟩
  by_cases h2 : 1024 < lb
  · go_enter Try.func4, Try.ntmps4
    go_wp2_with (go_at_call 11; (with_reducible refine H11.out.mono ?_); rintro e w' ⟨rfl, rfl⟩)
    go_ret
    exact ⟨rfl, Below.refl _ _⟩
  by_cases h3 : 1024 < lc
  · go_enter Try.func4, Try.ntmps4
    go_wp2_with (go_at_call 11; (with_reducible refine H11.out.mono ?_); rintro e w' ⟨rfl, rfl⟩)
    go_ret
    exact ⟨rfl, Below.refl _ _⟩
  by_cases h4 : lb ≠ la
  · have e5 : ((lb : Int) != (la : Int)) = true := by simp; omega
    clear h4
    go_enter Try.func4, Try.ntmps4
    go_wp2_with (go_at_call 11; (with_reducible refine H11.out.mono ?_); rintro e w' ⟨rfl, rfl⟩)
    go_ret
    exact ⟨rfl, Below.refl _ _⟩
  obtain rfl : la = lb := by omega
  by_cases h5 : lc ≠ la
  · have e5 : ((lc : Int) != (la : Int)) = true := by simp; omega
    clear h5
    go_enter Try.func4, Try.ntmps4
    go_wp2_with (go_at_call 11; (with_reducible refine H11.out.mono ?_); rintro e w' ⟨rfl, rfl⟩)
    go_ret
    exact ⟨rfl, Below.refl _ _⟩
  obtain rfl : la = lc := by omega
  clear h4 h5 h2 h3
  have hn : la ≤ 1024 := by omega
  clear h0 h1
  have bI : ∀ i, 0 ≤ I i ∧ I i ≤ 4294967295 := fun i => by simpa [Lit.wf, IntKind.min, IntKind.max, IntKind.signed, IntKind.bits] using HA.out.2.2.2 i
  have bS : ∀ i, 0 ≤ S i ∧ S i ≤ 4294967295 := fun i => by simpa [Lit.wf, IntKind.min, IntKind.max, IntKind.signed, IntKind.bits] using HB.out.2.2.2 i
  have BI := Lib.hid bI
  have BS := Lib.hid bS
  clear bI bS
  have enn : ((la : Int) != (la : Int)) = false := by simp
  go_enter Try.func4, Try.ntmps4
  go_wp2_with (go_at_call 11; (with_reducible refine H11.out.mono ?_); rintro e w' ⟨rfl, rfl⟩)
  refine (cloneRU w a la ca I (by omega) HA.out.1 HA.out.2.2.1).mono ?_
  rintro e w1 ⟨a1, rfl, hr1, hb1⟩
  have R1 := Lib.hid hr1
  have B1 := Lib.hid hb1
  clear hr1 hb1
  go_wp2_with fail
  refine (cloneRU w1 b la cb S (by omega) HB.out.1 (HB.out.2.2.1.below B1.out)).mono ?_
  rintro e w2 ⟨a2, rfl, hr2, hb2⟩
  have R2 := Lib.hid hr2
  have B2 := Lib.hid hb2
  clear hr2 hb2
  go_wp2_with fail
  refine (cloneRI w2 c la cc L (by omega) HC.out.1 ((HC.out.2.2.1.below B1.out).below B2.out)).mono ?_
  rintro e w3 ⟨a3, rfl, hr3, hb3⟩
  have R3 := Lib.hid hr3
  have R13 := Lib.hid ((R1.out.below B2.out).below hb3)
  have R23 := Lib.hid (R2.out.below hb3)
  have B03 := Lib.hid ((B1.out.trans (B2.out.mono B1.out.size)).trans (hb3.mono (Nat.le_trans B1.out.size B2.out.size)))
  clear hr3 hb3 R1 R2 B1 B2 HA HB HC
  go_wp2_with fail
  refine (buildR w3 a1 a2 a3 la la la la I S L (by omega) R13.out R23.out R3.out).mono ?_
  rintro e w4 ⟨g, rfl, hg, h4⟩
  have HG := Lib.hid hg
  have H4 : Hid (Arr w3 g la I S L (fun q => q) w4) := Lib.hid h4
  clear hg h4
  go_wp2_with fail
  go_loopw [9] (fun v9 wr => ∃ (x : Nat) (p : Nat → Nat), v9 = .int .i64 x ∧ 1 ≤ x ∧ (x ≤ la ∨ x = 1) ∧ Ins (kk I S) la x p ∧ Arr w3 g la I S L p wr) (fun v9 _ => la - (intOf v9).toNat)
  case atStart => exact ⟨1, fun q => q, rfl, by omega, .inr rfl, Ins.start _ _, H4.out⟩
  case round =>
    clear H4
    obtain ⟨x, p, rfl, hx1, hx2, hI, hM⟩ := hrel
    have HI := Lib.hid hI
    have HM := Lib.hid hM
    have HX2 := Lib.hid hx2
    clear hI hM hx2
    rename World => wx
    by_cases hlt : x < la
    · go_wp2_with fail
      refine (len12 _ _ _ _).mono ?_
      rintro e w' ⟨rfl, rfl⟩
      go_simp
      go_wp2_with fail
      go_loopw [10] (fun v10 wr => ∃ (y : Nat) (p : Nat → Nat), v10 = .int .i64 y ∧ y ≤ x ∧ In2 (kk I S) la x y p ∧ Arr w3 g la I S L p wr) (fun v10 _ => (intOf v10).toNat)
      case atStart => exact ⟨x, p, rfl, by omega, HI.out.enter, HM.out⟩
      case round =>
        clear HI HM
        clear p
        obtain ⟨y, p, rfl, hyx, hI2, hM2⟩ := hrel
        have HI2 := Lib.hid hI2
        have HM2 := Lib.hid hM2
        clear hI2 hM2
        rename World => wy
        by_cases hy : 0 < y
        · have hy1 : (1 : Int) ≤ (y : Int) := by omega
          have hy0 : (0 : Int) ≤ (y : Int) - 1 := by omega
          have HL := less1 wy g la y (fun q => ⟨S (p q), I (p q), L (p q)⟩) hy (by omega) (by omega) HM2.out.1
          rw [less_kk BI.out BS.out] at HL
          by_cases hk : kk I S (p y) < kk I S (p (y - 1))
          · rw [decide_eq_true hk] at HL
            have HLL := Lib.hid HL
            have HK := Lib.hid hk
            clear HL hk
            go_wp2_with fail
            refine HLL.out.mono ?_
            rintro e w5 ⟨rfl, hb5⟩
            have HM5 := Lib.hid (HM2.out.below hb5)
            clear hb5
            go_simp
            go_wp2_with fail
            refine (swap1 w5 g la y (fun q => ⟨S (p q), I (p q), L (p q)⟩) hy (by omega) (by omega) HM5.out.1).mono ?_
            intro e w6 h6
            have H6 := Lib.hid (Arr.swap (show Arr w3 g la I S L p w5 from HM5.out) HM5.out.1.lt h6)
            have he := h6.1
            subst he
            clear h6
            go_simp
            go_wp2_with fail
            go_roundw
            case rel => exact ⟨y - 1, sw p y, by first | (congr 1; omega) | go_num, by omega, HI2.out.step hy HK.out, H6.out⟩
            case measure => simp [intOf]; omega
          · rw [decide_eq_false hk] at HL
            have HLL := Lib.hid HL
            have HK : Hid (kk I S (p (y - 1)) ≤ kk I S (p y)) := Lib.hid (by omega)
            clear HL hk
            go_wp2_with fail
            refine HLL.out.mono ?_
            rintro e w5 ⟨rfl, hb5⟩
            have HM5 := Lib.hid (HM2.out.below hb5)
            clear hb5
            go_simp
            go_wp2_with fail
            go_roundw
            case rel => exact ⟨x + 1, p, by go_num, by omega, .inl (by omega), HI2.out.leave (.inr HK.out), HM5.out⟩
            case measure => simp [intOf]; omega
        · have hy0 : y = 0 := by omega
          have HY := Lib.hid hy0
          clear hy0
          go_wp2_with fail
          go_roundw
          case rel => exact ⟨x + 1, p, by go_num, by omega, .inl (by omega), HI2.out.leave (.inl HY.out), HM2.out⟩
          case measure => simp [intOf]; omega
    · have HSO := Lib.hid (Ins.end' HI.out (by omega) HX2.out)
      have hmk := fun w => run_make_row' (P := Try.prog) 37 30 (Value.int .u64 0) 8 Try.underlying37 info30 rfl .i64 .i64 la (by omega) (by omega) w
      simp only [fillA_zero (fun _ => Value.int .u64 0)] at hmk
      go_wp2_with fail
      refine (len12 _ _ _ _).mono ?_
      rintro e w' ⟨rfl, rfl⟩
      go_simp
      go_wp2_with fail
      refine (len12 _ _ _ _).mono ?_
      rintro e w' ⟨rfl, rfl⟩
      go_simp
      go_wp2_with fail
      clear hmk
      have hks : KS w3 g wx.heap.size la I S L p 0 (wx.alloc (.cells (fillA (fun _ => Value.int .u64 0) (Value.int .u64 0) 0 la) 30)) := by
        refine ⟨HM.out.below ((Below.refl _ _).alloc (Nat.le_refl _) _), ?_, HM.out.1.lt⟩
        have := RowG.made wx 30 (fillA (fun _ => Value.int .u64 0) (Value.int .u64 0) 0 la) (KR I S 0) (fun q hq => by rw [size_fillA] at hq; rw [get_fillA _ _ _ _ _ hq, if_neg (by omega)]; simp [KR])
        rw [size_fillA] at this
        exact this
      have HKS := Lib.hid hks
      clear hks HI HX2 HM
      generalize hkb : wx.heap.size = kb at *
      generalize wx.alloc (.cells (fillA (fun _ => Value.int .u64 0) (Value.int .u64 0) 0 la) 30) = wk at *
      clear hkb
      go_loopw [12] (fun v12 wr => ∃ k : Nat, k ≤ la ∧ v12 = .int .i64 k ∧ KS w3 g kb la I S L p k wr) (fun v12 _ => la - (intOf v12).toNat)
      case atStart => exact ⟨0, by omega, rfl, HKS.out⟩
      case round =>
        clear HKS
        obtain ⟨k, hk, rfl, hK⟩ := hrel
        have HK := Lib.hid hK
        clear hK
        rename World => wz
        have hb3z : Below w3.heap.size w3 wz := HK.out.a.2.mono (by rw [HG.out]; exact Nat.le_refl _)
        have HB3 := Lib.hid hb3z
        clear hb3z
        by_cases hlt2 : k < la
        · skip
          obtain ⟨b1, o1, rfl, hc1⟩ := R13.out (by omega)
          obtain ⟨b2, o2, rfl, hc2⟩ := R23.out (by omega)
          have k1 := hc1 k hlt2
          have k2 := hc2 k hlt2
          have l1 := block_lt_of_cell k1
          have l2 := block_lt_of_cell k2
          simp only at l1 l2
          have c1 := (HB3.out.cell (p := ⟨b1, o1 + k, none⟩) l1).trans k1
          have c2 := (HB3.out.cell (p := ⟨b2, o2 + k, none⟩) l2).trans k2
          have hgk : w3.heap.size < kb := by rw [← HG.out]; exact HK.out.lt
          have L12 := Lib.hid (keepK (kb := kb) (wz := wz) c1 c2 (by omega) (by omega))
          have hk3 : wz.cell? ⟨kb, k, none⟩ = some (.int .u64 0) := by have := HK.out.k.cell (p := k) hlt2; simpa [KR] using this
          have hf3 := HK.out.k.frozen k
          have i1 := BI.out k
          have s1 := BS.out k
          have HKE := Lib.hid (kk_eq BI.out BS.out k)
          have hbl0 := Below.refl kb wz
          clear hc1 hc2 k1 k2 l1 l2 hgk
          go_wp2_with fail
          go_region_held3 (fun w' => w'.cell? ⟨b1, o1 + k, none⟩ = some (.int .u32 (I k)) ∧ w'.cell? ⟨b2, o2 + k, none⟩ = some (.int .u32 (S k)) ∧ Below kb wz w')
            (first | (refine L12.out _ ?_; first | assumption | exact Below.drew (by assumption) | exact Below.setCell (by assumption) (by exact Nat.le_refl _) _ | exact Below.drew (Below.setCell (by assumption) (by exact Nat.le_refl _) _)))
            (first | (go_at_call 9; (with_reducible refine (key_any _ _ _ i1 s1).mono ?_); rintro e w' ⟨rfl, rfl⟩))
          go_wp2_with fail
          go_roundw
          case rel => exact ⟨k + 1, by omega, by go_num, by rw [HKE.out]; first | exact HK.out.put | exact HK.out.put.drew | exact HK.out.drew.put⟩
          case measure => simp [intOf]; omega
        · obtain rfl : k = la := by omega
          go_wp2_with fail
          refine (stable wz kb k (kk I S) hn (fun i hi => by have := HK.out.k.cell hi; rw [this]; simp [KR, hi])).mono ?_
          rintro e w5 ⟨g2, p2, rfl, hs2, hc2, hb5⟩
          have HO : Hid (∀ i, i < k → w5.cell? ⟨g2, i, none⟩ = some (.int .i64 (p i : Int))) := Lib.hid fun i hi => by rw [hc2 i hi, hs2.uniq HSO.out i hi]
          have HK5 := Lib.hid (HK.out.below hb5)
          have HB5 := Lib.hid (HB3.out.trans (hb5.mono HB3.out.size))
          clear hs2 hc2 hb5 HK HB3 p2
          go_simp
          go_wp2_with fail
          go_loopw [14] (fun v14 wr => ∃ t : Nat, t ≤ k ∧ v14 = .int .i64 t ∧ Below w5.heap.size w5 wr) (fun v14 _ => k - (intOf v14).toNat)
          case atStart => exact ⟨0, by omega, rfl, Below.refl _ _⟩
          case round =>
            obtain ⟨t, ht, rfl, hBt⟩ := hrel
            have HBT := Lib.hid hBt
            clear hBt
            rename World => wv
            by_cases hlt3 : t < k
            · have hp : p t < k := HSO.out.1 t hlt3
              have co := (HBT.out.cell (p := ⟨g2, t, none⟩) (block_lt_of_cell (HO.out t hlt3))).trans (HO.out t hlt3)
              have HKV := Lib.hid (HK5.out.below HBT.out)
              obtain ⟨d0, d1, d2⟩ := Mb.cells HKV.out.a.1 hlt3
              have B3V := Lib.hid (HB5.out.trans (HBT.out.mono HB5.out.size))
              have q1 : (I (p t) != I (p t)) = false := by simp
              have q2 : (S (p t) != S (p t)) = false := by simp
              have q3 : (L (p t) != L (p t)) = false := by simp
              go_wp2_with fail
              refine (fields15 wv ⟨S (p t), I (p t), L (p t)⟩).mono ?_
              rintro e w6 ⟨rfl, hb6⟩
              have HB6 := Lib.hid (HBT.out.trans (hb6.mono HBT.out.size))
              have B36 := Lib.hid (B3V.out.trans (hb6.mono B3V.out.size))
              obtain ⟨b1, o1, e1, hc1⟩ := R13.out.below B36.out (by omega)
              obtain ⟨b2, o2, e2, hc2⟩ := R23.out.below B36.out (by omega)
              obtain ⟨b3, o3, e3, hc3⟩ := R3.out.below B36.out (by omega)
              cases e1
              cases e2
              cases e3
              have c1 := hc1 (p t) hp
              have c2 := hc2 (p t) hp
              have c3 := hc3 (p t) hp
              clear hc1 hc2 hc3 hb6 co d0 d1 d2
              go_simp
              go_wp2_with fail
              go_roundw
              case rel => exact ⟨t + 1, by omega, by go_num, HB6.out⟩
              case measure => simp [intOf]; omega
            · obtain rfl : t = k := by omega
              go_wp2_with fail
              go_ret
              exact ⟨rfl, B03.out.trans ((HB5.out.trans (HBT.out.mono HB5.out.size)).mono B03.out.size)⟩
end Go.Proofs.Ytgelgpeabcmndaa.sp
