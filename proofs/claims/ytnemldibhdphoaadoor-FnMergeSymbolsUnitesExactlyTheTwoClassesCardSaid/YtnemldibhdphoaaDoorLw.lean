/-
  Symbols: the law, walked.
-/
import Derived.Test.YtnemldibhdphoaaDoorHl
namespace Go.Proofs.YtnemldibhdphoaaDoor.lk
open Go.ChangeShapes Go.WideShapes Go.ChangeAt Go.RowKit Go.Deep
set_option linter.unusedVariables false
set_option linter.unusedSimpArgs false

section
variable {l l2 : Nat → Option Nat} {n i r d : Nat}
theorem Dp.agree (ha : ∀ i, i < n → l i = l2 i) (hF : Fits n l) (h : Dp l i r d) : i < n → Dp l2 i r d := by
  induction h with
  | @here i h => intro hi; exact .here (by rw [← ha i hi]; exact h)
  | @step i j r d h h2 ih => intro hi; exact .step (by rw [← ha i hi]; exact h) (ih (hF i j hi h))
theorem Rt.agree (ha : ∀ i, i < n → l i = l2 i) (hF : Fits n l) (hi : i < n) (h : Rt l i r) : Rt l2 i r := by
  obtain ⟨d, h⟩ := h; exact ⟨d, h.agree ha hF hi⟩
end
/-- The links of the first k. -/
def firstK (L : Nat → Int) (k : Nat) (i : Nat) : Option Nat := if i < k then lnk L i else none
theorem firstK_none {L : Nat → Int} {k : Nat} (h : L k < 0) : firstK L (k + 1) = firstK L k := by
  funext i
  unfold firstK
  by_cases e : i = k
  · subst e; rw [if_pos (by omega), if_neg (by omega)]; simp [lnk, h]
  · by_cases h2 : i < k
    · rw [if_pos (by omega), if_pos h2]
    · rw [if_neg (by omega), if_neg h2]
theorem firstK_some {L : Nat → Int} {k x : Nat} (h : L k = x) : up (firstK L k) k x = firstK L (k + 1) := by
  funext i
  by_cases e : i = k
  · subst e; rw [up_at]; unfold firstK; rw [if_pos (by omega)]; unfold lnk; rw [if_neg (by omega), h]; simp
  · rw [up_ne e]; unfold firstK
    by_cases h2 : i < k
    · rw [if_pos h2, if_pos (by omega)]
    · rw [if_neg h2, if_neg (by omega)]
theorem firstK_zero (L : Nat → Int) : (fun _ => none) = firstK L 0 := by funext i; simp [firstK]
theorem lval_lnk (l : Nat → Option Nat) (f : Nat → Int) (i : Nat) (h : f i = lval (l i)) : l i = lnk f i := by
  unfold lnk; rw [h]
  cases l i with
  | none => simp [lval]
  | some j => show some j = if (j : Int) < 0 then none else some (j : Int).toNat; rw [if_neg (by omega)]; simp
theorem lval_lt {l : Nat → Option Nat} {n i : Nat} (hF : Fits n l) (hi : i < n) : -1 ≤ lval (l i) ∧ lval (l i) < n := by
  cases h : l i with
  | none => simp [lval]; omega
  | some j => have := hF i j hi h; simp [lval]; omega
theorem Pr.belSet {w w' : World} {g B n c : Nat} {l : Nat → Option Nat} (h : Pr w g B n c l) {A : Nat} (hA : B < A) (i : Nat) (v : Value) : Pr (w.setCell ⟨A, i, none⟩ v) g B n c l := by
  have h1 := h.gB; have h2 := h.g0
  exact h.keep (by rw [szSet]; exact Nat.le_refl _) (fun b hb => Below.heap_setCell _ _ _ _ (by show b ≠ A; omega))
def LawP (w : World) (e : Ending) (w' : World) : Prop := e = .returned (.bool true) ∧ Below w.heap.size w w'
set_option maxRecDepth 100000 in
set_option maxHeartbeats 8000000 in
theorem law3 (w : World) (a : Option Addr) (len cap : Nat) (Z : Nat → Int) (old nw : Nat) (ho : old < 4294967296) (hw : nw < 4294967296) (h : IsInts .i32 w a len cap Z) (hI : Inv w 4294967295 4294967295) :
    Calls Tryd.prog 3 #[.slice a len cap, .int .u32 old, .int .u32 nw] w (LawP w) := by
  have HI := Lib.hid hI
  have HA := Lib.hid h
  have HZ : Hid (∀ i, -2147483648 ≤ Z i ∧ Z i < 2147483648) := Lib.hid (fun i => by have := h.2.2.2 i; simp [Lit.wf] at this; have e1 : IntKind.i32.min = -2147483648 := rfl; have e2 : IntKind.i32.max = 2147483647 := rfl; omega)
  clear hI h
  go_enter Tryd.func3, Tryd.ntmps3
  go_wp2_with fail
  refine (bytes4 w a len cap old nw).mono ?_
  rintro e w' ⟨⟨b, rfl⟩, rfl⟩
  cases b
  · go_simp
    go_wp2_with fail
    go_ret
    exact ⟨rfl, Below.refl _ _⟩
  by_cases hl0 : decide ((65536 : Int) < (len : Int)) = true
  · go_simp
    go_wp2_with fail
    go_ret
    exact ⟨rfl, Below.refl _ _⟩
  have hl1 : decide ((65536 : Int) < (len : Int)) = false := by simpa using hl0
  have HL : Hid (len ≤ 65536) := Lib.hid (by have := of_decide_eq_false hl1; omega)
  clear hl0
  go_simp
  go_wp2_with fail
  have hl := HL.out
  clear hl1
  refine (clone5 w' a len cap Z hl HA.out.1 HA.out.2.2.1).mono ?_
  rintro e w1 ⟨a1, c1, rfl, hR1, hB1⟩
  have HR1 := Lib.hid hR1
  have HB1 := Lib.hid hB1
  clear hR1 hB1
  go_simp
  go_wp2_with fail
  refine (links6 w1 a1 len c1 Z old nw hl ho hw HR1.out HZ.out).mono ?_
  rintro e w2 ⟨hB2, ⟨s, rfl⟩ | ⟨hol, hnl, a2, c2, L, rfl, hR2, hL, hrt⟩⟩
  · have HB2 := Lib.hid hB2
    clear hB2
    go_simp
    go_wp2_with fail
    go_ret
    exact ⟨rfl, HB1.out.trans (HB2.out.mono HB1.out.size)⟩
  have HB2 : Hid (Below w'.heap.size w' w2) := Lib.hid (HB1.out.trans (hB2.mono HB1.out.size))
  have HR2 := Lib.hid hR2
  have HLL := Lib.hid hL
  have HRT := Lib.hid hrt
  have hlt : ∀ i, i < len → L i < len := fun i hi => by rcases hL i hi with h | h <;> omega
  have HLT := Lib.hid hlt
  have HFit : Hid (Fits len (lnk L)) := Lib.hid (fun i j hi hj => by
    unfold lnk at hj; split at hj
    · cases hj
    · cases hj; have := hlt i hi; omega)
  clear hR2 hL hrt hlt hB2 HB1 HR1
  go_simp
  go_wp2_with fail
  refine (roots7 w2 a2 len c2 L hl HR2.out HLT.out).mono ?_
  rintro e w3 ⟨hB3, ⟨rfl, hno⟩ | ⟨a3, c3, f, rfl, hR3, hf⟩⟩
  · exact absurd HRT.out hno
  have HB3 : Hid (Below w'.heap.size w' w3) := Lib.hid (HB2.out.trans (hB3.mono HB2.out.size))
  have HRL : Hid (Row w3 a2 len (fun i => .int .i64 (L i))) := Lib.hid (HR2.out.below hB3)
  have HRF := Lib.hid hR3
  have HFF := Lib.hid hf
  have HI3 : Hid (Inv w3 4294967295 4294967295) := Lib.hid (HI.out.touch (Touch.of_below HB3.out (fun _ => False)) (fun h => h))
  clear hB3 hR3 hf HB2 HR2
  go_simp
  go_wp2_with fail
  refine (new8 w3).mono ?_
  rintro e w4 hN
  obtain ⟨rfl, hN2⟩ := id hN
  have HM4 : Hid (Mk w3 w3.heap.size 0 w4) := Lib.hid (Mk.start hN HI3.out)
  have hg0 : 0 < w3.heap.size := HI3.out.lt
  clear hN hN2
  go_simp
  go_wp2_with fail
  go_loopw [13] (fun i wr => ∃ k : Nat, k ≤ len ∧ i = .int .i64 k ∧ Mk w3 w3.heap.size k wr) (fun i _ => len - (intOf i).toNat)
  case atStart => exact ⟨0, by omega, rfl, HM4.out⟩
  case round =>
    clear HM4
    obtain ⟨k, hk, rfl, hM⟩ := hrel
    have HM := Lib.hid hM
    clear hM
    by_cases hkl : k < len
    · go_wp2_with fail
      rename World => wq
      refine (sym9 w3 wq w3.heap.size k HM.out hg0 (by omega)).mono ?_
      rintro e w5 ⟨⟨v, rfl⟩, hM5⟩
      have HM5 := Lib.hid hM5
      clear hM5
      go_simp
      go_wp2_with fail
      go_roundw
      case rel => exact ⟨k + 1, by omega, by go_num, HM5.out⟩
      case measure => simp [intOf]; omega
    · obtain rfl : k = len := by omega
      obtain ⟨B, c, hP⟩ := HM.out.done (by omega) hl hg0
      rw [firstK_zero L] at hP
      have HP0 := Lib.hid hP
      have HB4 := Lib.hid HM.out.bel
      clear hP HM
      go_wp2_with fail
      go_loopw [14] (fun i wr => ∃ q : Nat, q ≤ k ∧ i = .int .i64 q ∧ Pr wr w3.heap.size B k c (firstK L q) ∧ Below w3.heap.size w3 wr) (fun i _ => k - (intOf i).toNat)
      case atStart => exact ⟨0, by omega, rfl, HP0.out, HB4.out⟩
      case round =>
        clear HP0 HB4
        obtain ⟨q, hq, rfl, hP, hB⟩ := hrel
        have HP := Lib.hid hP
        have HB := Lib.hid hB
        clear hP hB
        by_cases hqk : q < k
        · obtain ⟨b, off, rfl, hcell⟩ := (HRL.out.below HB.out) (by omega)
          have e1 : _ = some (Value.int .i64 (L q)) := hcell q hqk
          clear hcell
          by_cases hneg : L q < 0
          · have HNeg := Lib.hid hneg
            go_wp2_with fail
            go_roundw
            case rel => exact ⟨q + 1, by omega, by go_num, by rw [firstK_none HNeg.out]; exact HP.out, HB.out⟩
            case measure => simp [intOf]; omega
          · obtain ⟨x, hx⟩ : ∃ x : Nat, L q = x := ⟨(L q).toNat, by omega⟩
            have hxl : x < k := by have := HLT.out q hqk; omega
            rw [hx] at e1
            have HX := Lib.hid hx
            clear hx hneg
            go_wp2_with fail
            rename World => wq
            refine (set10 wq w3.heap.size B k c (firstK L q) q x HP.out hqk hxl).mono ?_
            rintro e w5 ⟨rfl, hP5, hT5⟩
            rw [firstK_some HX.out] at hP5
            have HP5 := Lib.hid hP5
            have HB5 : Hid (Below w3.heap.size w3 w5) := Lib.hid (HB.out.trans (hT5.below HB.out.size (fun b hb => by subst hb; exact Nat.le_of_lt HP.out.gB)))
            clear hP5 hT5 e1
            go_simp
            go_wp2_with fail
            go_roundw
            case rel => exact ⟨q + 1, by omega, by go_num, HP5.out, HB5.out⟩
            case measure => simp [intOf]; omega
        · obtain rfl : q = k := by omega
          have HAg : Hid (∀ i, i < q → lnk L i = firstK L q i) := Lib.hid (fun i hi => by unfold firstK; rw [if_pos hi])
          have HF0 : Hid (∀ i, i < q → Rt (firstK L q) i (f i)) := Lib.hid (fun i hi => (HFF.out i hi).agree HAg.out HFit.out hi)
          go_wp2_with fail
          rename World => wq
          refine (merge11 wq w3.heap.size B q c (firstK L q) old nw (f old) (f nw) HP.out hol hnl (HF0.out old hol) (HF0.out nw hnl)).mono ?_
          rintro e w5 ⟨l', got, rfl, hM, hP5, hT5⟩
          have HM := Lib.hid hM
          have HP5 := Lib.hid hP5
          have HB5 : Hid (Below w3.heap.size w3 w5) := Lib.hid (HB.out.trans (hT5.below HB.out.size (fun b hb => by subst hb; exact Nat.le_of_lt HP.out.gB)))
          have hgot : got < q := hM.2.2.2.2.2
          clear hM hP5 hT5 HP HB
          have hmk := made26 q (by omega)
          have hd1 : decide ((q : Int) ≤ (got : Int)) = false := decide_eq_false (by omega)
          have hd2 : decide (q ≤ got) = false := decide_eq_false (by omega)
          have HGQ := Lib.hid hgot
          have hgb : got ≤ 65536 := by omega
          clear hgot
          go_simp
          go_wp2_with fail
          have hgot := HGQ.out
          clear hmk hd1 hd2
          have HP6 : Hid (Pr (w5.alloc (.cells (madeCells #[.int .i64 0] q) 2)) w3.heap.size B q c l') := Lib.hid (HP5.out.below ((Below.refl _ _).alloc (Nat.le_refl _) _))
          have HB6 : Hid (Below w3.heap.size w3 (w5.alloc (.cells (madeCells #[.int .i64 0] q) 2))) := Lib.hid (HB5.out.alloc HB5.out.size _)
          have HR6 : Hid ((w5.alloc (.cells (madeCells #[.int .i64 0] q) 2)).rowIs w5.heap.size 2 q (fun _ => .int .i64 0)) := Lib.hid (World.rowIs_made _ _ _ _)
          have hBA : B < w5.heap.size := HP5.out.lt
          have hgA : w3.heap.size ≤ w5.heap.size := HB5.out.size
          clear HP5 HB5
          generalize w5.alloc (.cells (madeCells #[.int .i64 0] q) 2) = w6 at *
          generalize w5.heap.size = A at *
          go_loopw [17] (fun i wr => ∃ (j : Nat) (fa : Nat → Int), j ≤ q ∧ i = .int .i64 j ∧ wr.rowIs A 2 q (fun i => .int .i64 (fa i)) ∧ (∀ i, i < j → fa i = lval (l' i)) ∧ Pr wr w3.heap.size B q c l' ∧ Below w3.heap.size w3 wr) (fun i _ => q - (intOf i).toNat)
          case atStart => exact ⟨0, fun _ => 0, by omega, rfl, HR6.out, fun i hi => by omega, HP6.out, HB6.out⟩
          case round =>
            clear HR6 HP6 HB6
            obtain ⟨j, fa, hj, rfl, hR, hfa, hP, hB⟩ := hrel
            have HR := Lib.hid hR
            have HFA := Lib.hid hfa
            have HP := Lib.hid hP
            have HB := Lib.hid hB
            clear hR hfa hP hB
            by_cases hjq : j < q
            · go_wp2_with fail
              rename World => wz
              refine (link12 wz w3.heap.size B q c l' j HP.out hjq).mono ?_
              rintro e w7 ⟨rfl, hb7⟩
              obtain ⟨g1, g2⟩ := lval_lt HP.out.fits hjq
              have HP7 := Lib.hid (HP.out.below hb7)
              have HB7 : Hid (Below w3.heap.size w3 w7) := Lib.hid (HB.out.trans (hb7.mono HB.out.size))
              have HR7 := Lib.hid (HR.out.of_block (hb7.block A HR.out.lt))
              have d1 := HR7.out.cell hjq
              have d2 := HR7.out.frozen j
              obtain ⟨v, hv⟩ : ∃ v, v = lval (l' j) := ⟨_, rfl⟩
              rw [← hv] at g1 g2
              rw [← hv]
              have HV := Lib.hid hv
              have hd : decide ((q : Int) ≤ v) = false := decide_eq_false (by omega)
              clear hb7 HP HB HR hv g1 g2
              go_simp
              go_wp2_with fail
              go_roundw
              case rel =>
                refine ⟨j + 1, updI fa j v, by omega, by go_num, (HR7.out.set j (.int .i64 v)).congr (fun i _ => by simp only [updI]; split <;> rfl), fun i hi => ?_, HP7.out.belSet (w' := w7) hBA _ _, HB7.out.trans ⟨rfl, rfl, rfl, by simp [World.setCell], fun b hb => Below.heap_setCell _ _ _ _ (by show b ≠ A; omega)⟩⟩
                unfold updI; split
                · next e => subst e; exact HV.out
                · exact HFA.out i (by omega)
              case measure => simp [intOf]; omega
            · obtain rfl : j = q := by omega
              have HAg2 : Hid (∀ i, i < j → l' i = lnk fa i) := Lib.hid (fun i hi => lval_lnk l' fa i (HFA.out i hi))
              have HFit2 : Hid (Fits j l') := Lib.hid HP.out.fits
              have hfl : ∀ i, i < j → fa i < j := fun i hi => by rw [HFA.out i hi]; exact (lval_lt HP.out.fits hi).2
              have HFL := Lib.hid hfl
              have HRow : Hid (Row _ (some ⟨A, 0, none⟩) j (fun i => .int .i64 (fa i))) := Lib.hid (fun h0 => ⟨_, 0, rfl, fun i hi => by rw [Nat.zero_add]; exact HR.out.cell hi⟩)
              have HMap : Hid (∀ i, i < j → Rt l' i (if f i = f old then f nw else f i)) := Lib.hid (fun i hi => HM.out.1 i (f i) (HF0.out i hi))
              have HGot : Hid (Rt l' got (f nw)) := Lib.hid (by
                have h1 := HMap.out nw hnl
                have h2 : (if f nw = f old then f nw else f nw) = f nw := by split <;> rfl
                rw [h2] at h1
                exact h1.along HM.out.2.2.1)
              clear hfl
              go_wp2_with fail
              rename World => wz
              refine (roots7 wz (some ⟨A, 0, none⟩) j j fa hl HRow.out HFL.out).mono ?_
              rintro e w8 ⟨hB8, ⟨rfl, hno⟩ | ⟨a8, c8, f8, rfl, hR8, hf8⟩⟩
              · exact absurd (fun i hi => ⟨_, (HMap.out i hi).agree HAg2.out HFit2.out hi⟩) hno
              have HB8 : Hid (Below w3.heap.size w3 w8) := Lib.hid (HB.out.trans (hB8.mono HB.out.size))
              have HEq : Hid (∀ i, i < j → f8 i = if f i = f old then f nw else f i) := Lib.hid (fun i hi => (hf8 i hi).uniq ((HMap.out i hi).agree HAg2.out HFit2.out hi))
              have HEg : Hid (f8 got = f nw) := Lib.hid ((hf8 got hgot).uniq (HGot.out.agree HAg2.out HFit2.out hgot))
              have HR8 := Lib.hid hR8
              have HRB := Lib.hid (HRF.out.below HB8.out)
              clear hB8 hR8 hf8 HR HRow HP HB
              obtain ⟨b3, o3, rfl, hc3⟩ := HRB.out (by omega)
              obtain ⟨b8, o8, rfl, hc8⟩ := HR8.out (by omega)
              have y1 : _ = some (Value.int .i64 (f old)) := hc3 old hol
              have y2 : _ = some (Value.int .i64 (f nw)) := hc3 nw hnl
              have HC3 := Lib.hid hc3
              have HC8 := Lib.hid hc8
              clear hc3 hc8
              go_simp
              go_wp2_with fail
              go_loop [23] (fun i => ∃ t : Nat, t ≤ j ∧ i = .int .i64 t) (fun i => j - (intOf i).toNat)
              case atStart => exact ⟨0, by omega, rfl⟩
              case round =>
                obtain ⟨t, ht, rfl⟩ := hrel
                by_cases htj : t < j
                · have z1 : _ = some (Value.int .i64 (f t)) := HC3.out t htj
                  have z2 : _ = some (Value.int .i64 (f8 t)) := HC8.out t htj
                  have hE := HEq.out t htj
                  by_cases hft : f t = f old
                  · rw [if_pos hft] at hE
                    rw [hE] at z2
                    rw [hft] at z1
                    have hb : (((f old : Nat) : Int) == ((f old : Nat) : Int)) = true := by simp
                    have hb2 : (((f nw : Nat) : Int) != ((f nw : Nat) : Int)) = false := by simp
                    clear hE hft
                    go_wp2_with fail
                    go_round
                    case rel => exact ⟨t + 1, by omega, by go_num⟩
                    case measure => simp [intOf]; omega
                  · rw [if_neg hft] at hE
                    rw [hE] at z2
                    have hb : (((f t : Nat) : Int) == ((f old : Nat) : Int)) = false := by simp; omega
                    have hb2 : (((f t : Nat) : Int) != ((f t : Nat) : Int)) = false := by simp
                    clear hE hft
                    go_wp2_with fail
                    go_round
                    case rel => exact ⟨t + 1, by omega, by go_num⟩
                    case measure => simp [intOf]; omega
                · obtain rfl : t = j := by omega
                  have z2 : _ = some (Value.int .i64 (f8 got)) := HC8.out got hgot
                  rw [HEg.out] at z2
                  have hb : (((f nw : Nat) : Int) == ((f nw : Nat) : Int)) = true := by simp
                  go_wp2_with fail
                  go_ret
                  exact ⟨rfl, HB3.out.trans (HB8.out.mono HB3.out.size)⟩
end Go.Proofs.YtnemldibhdphoaaDoor.lk
