/-
  Line and column, walked.
-/
import Derived.Test.YtfnicbfdfceagaaFmtLs
import Derived.Deep.CutBlock
namespace Go.Proofs.YtfnicbfdfceagaaFmt.lg
open Go.ChangeShapes Go.WideShapes Go.ChangeAt Go.RowKit Go.Deep
set_option linter.unusedVariables false
set_option linter.unusedSimpArgs false
set_option maxRecDepth 100000
set_option maxHeartbeats 4000000
abbrev i64 (n : Int) : Value := .int .i64 n
def LineP (w : World) (b o : Nat) (s : ByteArray) (e : Ending) (w' : World) : Prop := ∃ (ln cl : Int) (off : Nat) (line : Int) (ls le : Nat), e = .returned (.tuple #[i64 ln, i64 cl, i64 ls, i64 le]) ∧ Tk w' b o s off line ls le true true ∧ Good s off ls le true true ∧ Tch b o w w'
/-- The back-scan's counter. -/
def RA (wc : World) (off : Nat) (v : Value) (wr : World) : Prop := ∃ i : Nat, v = .int .i32 i ∧ i ≤ off ∧ Below wc.heap.size wc wr
def RC (wc : World) (off n : Nat) (v : Value) (wr : World) : Prop := ∃ i : Nat, v = .int .i32 i ∧ off ≤ i ∧ i ≤ n ∧ Below wc.heap.size wc wr
def CutA (s : ByteArray) (off : Nat) (W : World) (v : Value) (wx : World) : Prop := ∃ i : Nat, v = .int .i32 i ∧ i ≤ off ∧ (i = 0 ∨ EndL s i) ∧ Below W.heap.size W wx
def CutB (s : ByteArray) (off : Nat) (W : World) (v : Value) (wx : World) : Prop := ∃ i : Nat, v = .int .i32 i ∧ off ≤ i ∧ i ≤ s.size ∧ (i = s.size ∨ AtL s i) ∧ Below W.heap.size W wx
theorem line60 (w : World) (b o : Nat) (s : ByteArray) (n : Nat) (T : TG w b o s) (hn : n ≤ s.size) (hsz : s.size ≤ 1048576) (U : Tabs w) (hb : 2 ≤ b) :
    Calls Tryf.prog 60 #[ptr b o, i64 n] w (LineP w b o s) := by
  have S := Lib.hid (scan62 w b o s n T hn hsz U hb)
  have hbw : b < w.heap.size := by obtain ⟨_, _, _, _, _, _, t, _⟩ := T; exact t.lt
  have HU := Lib.hid U
  have HB := Lib.hid hb
  have hnz : (n : Int) ≤ 1048576 := by omega
  clear T U hb
  go_enter Tryf.func60, Tryf.ntmps60
  go_upto_region 2 with (go_at_call 62; refine S.out.mono ?_; rintro _ w1 ⟨rfl, ⟨off, line, ls, le, hs, he, t, g⟩, ch⟩)
  have UU := Lib.hid (HU.out.tch ch HB.out)
  have hb1 : b < w1.heap.size := t.lt
  have CH := Lib.hid ch
  have GG := Lib.hid g
  have HT := Lib.hid t
  have hof := g.1
  have d0 := t.c0
  have d3 := t.c3
  have d4 := t.c4
  have d5 := t.c5
  have d6 := t.c6
  have d7 := t.c7
  have d8 := t.c8
  have z5 := t.fz (o + 5)
  have z6 := t.fz (o + 6)
  have z7 := t.fz (o + 7)
  have z8 := t.fz (o + 8)
  clear t g ch
  have hoz : (off : Int) ≤ s.size := by omega
  have hsz2 : (s.size : Int) ≤ 1048576 := by omega
  cases hs with
  | true =>
    cases he with
    | true =>
      have hl1 := (GG.out.2.1 rfl).1
      have hl2 := (GG.out.2.2 rfl).2.1
      have hlz : (ls : Int) ≤ 1048576 := by omega
      have hez : (le : Int) ≤ 1048576 := by omega
      go_upto_region 21 with fail
      go_quiet (fail)
      go_wp2_with fail
      refine bodyPost_ret (by simp [results, Tryf.results60, go_sem]; rfl) rfl ?_
      exact ⟨_, _, _, _, _, _, rfl, HT.out.of_block rfl, GG.out, CH.out.trans (Tch.of (tdN (Touch.refl _ _) _) HT.out.lt)⟩
    | false =>
      go_upto_block 2 with (fail)
      go_cut [13] (fun v wx => CutB s off w1 v wx)
      case first =>
        go_wp2_with fail
        go_loopw [13] (RC w1 off s.size) (fun v _ => s.size - (intOf v).toNat)
        case atStart => exact ⟨off, rfl, Nat.le_refl _, hof, Below.refl _ _⟩
        case round =>
          obtain ⟨i, rfl, hi, hi2, hbw⟩ := hrel
          have BW := Lib.hid hbw
          by_cases hi0 : i = s.size
          · subst hi0
            clear hbw
            go_wp2_with fail
            go_meet
            exact ⟨s.size, rfl, hi, Nat.le_refl _, Or.inl rfl, BW.out⟩
          · have hiz : (i : Int) < s.size := by omega
            obtain ⟨r, k, hD, k1, kle, hnl, hend, hjump⟩ := fwd s i (by omega)
            have D : ∀ w1, Tabs w1 → Calls Tryf.prog 64 #[.string (s.extract i s.size)] w1 fun e w' => e = .returned (.tuple #[.int .i32 r, .int .i64 k]) ∧ Below w1.heap.size w1 w' := fun w1 h => by
              have := Tryf.utf8_DecodeRuneInString (s.extract i s.size) w1 h
              rw [hD] at this
              exact this
            have DD := Lib.hid (D _ (Go.Proofs.Utf8Tabs_below UU.out hbw))
            have HN := Lib.hid hnl
            have ik : (i : Int) + k ≤ 1048576 := by omega
            clear D hD hbw hnl hend hjump
            have hr : r = 10 ∨ r = 13 ∨ r = 8232 ∨ r = 8233 ∨ ¬ NL r := by unfold NL; omega
            rcases hr with rfl | rfl | rfl | rfl | hr
            · go_wp2_with (go_at_call 64; refine DD.out.mono ?_; rintro _ w3 ⟨rfl, hb3⟩)
              go_meet
              exact ⟨i, rfl, hi, hi2, Or.inr (HN.out.1 (by unfold NL; omega)), BW.out.trans (hb3.mono BW.out.size)⟩
            · go_wp2_with (go_at_call 64; refine DD.out.mono ?_; rintro _ w3 ⟨rfl, hb3⟩)
              go_meet
              exact ⟨i, rfl, hi, hi2, Or.inr (HN.out.1 (by unfold NL; omega)), BW.out.trans (hb3.mono BW.out.size)⟩
            · go_wp2_with (go_at_call 64; refine DD.out.mono ?_; rintro _ w3 ⟨rfl, hb3⟩)
              go_meet
              exact ⟨i, rfl, hi, hi2, Or.inr (HN.out.1 (by unfold NL; omega)), BW.out.trans (hb3.mono BW.out.size)⟩
            · go_wp2_with (go_at_call 64; refine DD.out.mono ?_; rintro _ w3 ⟨rfl, hb3⟩)
              go_meet
              exact ⟨i, rfl, hi, hi2, Or.inr (HN.out.1 (by unfold NL; omega)), BW.out.trans (hb3.mono BW.out.size)⟩
            · have r1 : ((r : Int) == 10) = false := by simp; intro e; exact hr (by unfold NL; omega)
              have r2 : ((r : Int) == 13) = false := by simp; intro e; exact hr (by unfold NL; omega)
              have r3 : ((r : Int) == 8232) = false := by simp; intro e; exact hr (by unfold NL; omega)
              have r4 : ((r : Int) == 8233) = false := by simp; intro e; exact hr (by unfold NL; omega)
              clear hr
              go_wp2_with (go_at_call 64; refine DD.out.mono ?_; rintro _ w3 ⟨rfl, hb3⟩)
              refine ⟨⟨i + k, by congr 1, by omega, by omega, BW.out.trans (hb3.mono BW.out.size)⟩, by simp [intOf]; omega⟩
      case rest =>
        obtain ⟨j, rfl, hj, hj2, hjE, hbc⟩ := hcut
        have t3 := HT.out.of_block (hbc.block b hb1)
        have TB := Lib.hid ((t3.set_he true).set_le j)
        have CHB := Lib.hid (((CH.out.below hbw hbc).set 8 (by omega) (by omega) (.bool true)).set 6 (by omega) (by omega) (.int .i32 j))
        have GB := Lib.hid (show Good s off ls j true true from ⟨GG.out.1, GG.out.2.1, fun _ => ⟨hj, hj2, hjE⟩⟩)
        have e6 := t3.c6
        have e8 := t3.c8
        have y6 := t3.fz (o + 6)
        have y8 := t3.fz (o + 8)
        clear d0 d3 d4 d5 d6 d7 d8 z5 z6 z7 z8 t3 hbc
        go_upto_region 21 with fail
        clear e6 e8 y6 y8
        generalize (wc.setCell ⟨b, o + 8, none⟩ (.bool true)).setCell ⟨b, o + 6, none⟩ (.int .i32 j) = w4 at *
        have d0 := TB.out.c0
        have d3 := TB.out.c3
        have d4 := TB.out.c4
        have d5 := TB.out.c5
        have d6 := TB.out.c6
        have d7 := TB.out.c7
        have d8 := TB.out.c8
        have z5 := TB.out.fz (o + 5)
        have z6 := TB.out.fz (o + 6)
        have z7 := TB.out.fz (o + 7)
        have z8 := TB.out.fz (o + 8)
        have hl1 := (GB.out.2.1 rfl).1
        have hl2 := (GB.out.2.2 rfl).2.1
        have hlz : (ls : Int) ≤ 1048576 := by omega
        have hez : (j : Int) ≤ 1048576 := by omega
        go_upto_region 21 with fail
        go_quiet (fail)
        go_wp2_with fail
        refine bodyPost_ret (by simp [results, Tryf.results60, go_sem]; rfl) rfl ?_
        exact ⟨_, _, _, _, _, _, rfl, TB.out.of_block rfl, GB.out, CHB.out.trans (Tch.of (tdN (Touch.refl _ _) _) TB.out.lt)⟩
  | false =>
    cases he with
    | true =>
      go_upto_block 0 with (fail)
      go_cut [9] (fun v wx => CutA s off w1 v wx)
      case first =>
        go_wp2_with fail
        go_loopw [9] (RA w1 off) (fun v _ => (intOf v).toNat)
        case atStart => exact ⟨off, rfl, Nat.le_refl _, Below.refl _ _⟩
        case round =>
          obtain ⟨i, rfl, hi, hbw⟩ := hrel
          have BW := Lib.hid hbw
          by_cases hi0 : i = 0
          · subst hi0
            clear hbw
            go_wp2_with fail
            go_meet
            exact ⟨0, rfl, Nat.zero_le _, Or.inl rfl, BW.out⟩
          · have hiz : 0 < (i : Int) := by omega
            obtain ⟨r, k, hD, k1, kle, hnl, hend, hjump⟩ := bwd s i (by omega) (by omega)
            have D : ∀ w1, Tabs w1 → Calls Tryf.prog 63 #[.string (s.extract 0 i)] w1 fun e w' => e = .returned (.tuple #[.int .i32 r, .int .i64 k]) ∧ Below w1.heap.size w1 w' := fun w1 h => by
              have := Tryf.utf8_DecodeLastRuneInString (s.extract 0 i) w1 (by simp; omega) h
              rw [hD] at this
              exact this
            have DD := Lib.hid (D _ (Go.Proofs.Utf8Tabs_below UU.out hbw))
            have HN := Lib.hid hnl
            have ib : (i : Int) ≤ s.size := by omega
            have ik : (k : Int) ≤ i := by omega
            clear D hD hbw hnl hend hjump
            have hr : r = 10 ∨ r = 13 ∨ r = 8232 ∨ r = 8233 ∨ ¬ NL r := by unfold NL; omega
            rcases hr with rfl | rfl | rfl | rfl | hr
            · go_wp2_with (go_at_call 63; refine DD.out.mono ?_; rintro _ w3 ⟨rfl, hb3⟩)
              go_meet
              exact ⟨i, rfl, hi, Or.inr (HN.out.1 (by unfold NL; omega)), BW.out.trans (hb3.mono BW.out.size)⟩
            · go_wp2_with (go_at_call 63; refine DD.out.mono ?_; rintro _ w3 ⟨rfl, hb3⟩)
              go_meet
              exact ⟨i, rfl, hi, Or.inr (HN.out.1 (by unfold NL; omega)), BW.out.trans (hb3.mono BW.out.size)⟩
            · go_wp2_with (go_at_call 63; refine DD.out.mono ?_; rintro _ w3 ⟨rfl, hb3⟩)
              go_meet
              exact ⟨i, rfl, hi, Or.inr (HN.out.1 (by unfold NL; omega)), BW.out.trans (hb3.mono BW.out.size)⟩
            · go_wp2_with (go_at_call 63; refine DD.out.mono ?_; rintro _ w3 ⟨rfl, hb3⟩)
              go_meet
              exact ⟨i, rfl, hi, Or.inr (HN.out.1 (by unfold NL; omega)), BW.out.trans (hb3.mono BW.out.size)⟩
            · have r1 : ((r : Int) == 10) = false := by simp; intro e; exact hr (by unfold NL; omega)
              have r2 : ((r : Int) == 13) = false := by simp; intro e; exact hr (by unfold NL; omega)
              have r3 : ((r : Int) == 8232) = false := by simp; intro e; exact hr (by unfold NL; omega)
              have r4 : ((r : Int) == 8233) = false := by simp; intro e; exact hr (by unfold NL; omega)
              clear hr
              go_wp2_with (go_at_call 63; refine DD.out.mono ?_; rintro _ w3 ⟨rfl, hb3⟩)
              refine ⟨⟨i - k, by congr 1; omega, by omega, BW.out.trans (hb3.mono BW.out.size)⟩, by simp [intOf]; omega⟩
      case rest =>
        obtain ⟨i, rfl, hi, hiE, hbc⟩ := hcut
        have t2 := HT.out.of_block (hbc.block b hb1)
        have TS := Lib.hid ((t2.set_hs true).set_ls i)
        have CHS := Lib.hid (((CH.out.below hbw hbc).set 7 (by omega) (by omega) (.bool true)).set 5 (by omega) (by omega) (.int .i32 i))
        have GS := Lib.hid (show Good s off i le true true from ⟨GG.out.1, fun _ => ⟨hi, hiE⟩, GG.out.2.2⟩)
        have e5 := t2.c5
        have e7 := t2.c7
        have y5 := t2.fz (o + 5)
        have y7 := t2.fz (o + 7)
        have UU2 := Lib.hid (show Tabs ((wc.setCell ⟨b, o + 7, none⟩ (.bool true)).setCell ⟨b, o + 5, none⟩ (.int .i32 i)) from HU.out.tch CHS.out HB.out)
        have hb2 : b < ((wc.setCell ⟨b, o + 7, none⟩ (.bool true)).setCell ⟨b, o + 5, none⟩ (.int .i32 i)).heap.size := TS.out.lt
        clear d0 d3 d4 d5 d6 d7 d8 z5 z6 z7 z8 t2 hbc
        go_upto_region 11 with fail
        clear e5 e7 y5 y7
        generalize (wc.setCell ⟨b, o + 7, none⟩ (.bool true)).setCell ⟨b, o + 5, none⟩ (.int .i32 i) = w2 at *
        have d0 := TS.out.c0
        have d3 := TS.out.c3
        have d4 := TS.out.c4
        have d5 := TS.out.c5
        have d6 := TS.out.c6
        have d7 := TS.out.c7
        have d8 := TS.out.c8
        have z5 := TS.out.fz (o + 5)
        have z6 := TS.out.fz (o + 6)
        have z7 := TS.out.fz (o + 7)
        have z8 := TS.out.fz (o + 8)
        have hl1 := (GS.out.2.1 rfl).1
        have hl2 := (GS.out.2.2 rfl).2.1
        have hlz : (i : Int) ≤ 1048576 := by omega
        have hez : (le : Int) ≤ 1048576 := by omega
        go_upto_region 21 with fail
        go_quiet (fail)
        go_wp2_with fail
        refine bodyPost_ret (by simp [results, Tryf.results60, go_sem]; rfl) rfl ?_
        exact ⟨_, _, _, _, _, _, rfl, TS.out.of_block rfl, GS.out, CHS.out.trans (Tch.of (tdN (Touch.refl _ _) _) TS.out.lt)⟩
    | false =>
      go_upto_block 0 with (fail)
      go_cut [9] (fun v wx => CutA s off w1 v wx)
      case first =>
        go_wp2_with fail
        go_loopw [9] (RA w1 off) (fun v _ => (intOf v).toNat)
        case atStart => exact ⟨off, rfl, Nat.le_refl _, Below.refl _ _⟩
        case round =>
          obtain ⟨i, rfl, hi, hbw⟩ := hrel
          have BW := Lib.hid hbw
          by_cases hi0 : i = 0
          · subst hi0
            clear hbw
            go_wp2_with fail
            go_meet
            exact ⟨0, rfl, Nat.zero_le _, Or.inl rfl, BW.out⟩
          · have hiz : 0 < (i : Int) := by omega
            obtain ⟨r, k, hD, k1, kle, hnl, hend, hjump⟩ := bwd s i (by omega) (by omega)
            have D : ∀ w1, Tabs w1 → Calls Tryf.prog 63 #[.string (s.extract 0 i)] w1 fun e w' => e = .returned (.tuple #[.int .i32 r, .int .i64 k]) ∧ Below w1.heap.size w1 w' := fun w1 h => by
              have := Tryf.utf8_DecodeLastRuneInString (s.extract 0 i) w1 (by simp; omega) h
              rw [hD] at this
              exact this
            have DD := Lib.hid (D _ (Go.Proofs.Utf8Tabs_below UU.out hbw))
            have HN := Lib.hid hnl
            have ib : (i : Int) ≤ s.size := by omega
            have ik : (k : Int) ≤ i := by omega
            clear D hD hbw hnl hend hjump
            have hr : r = 10 ∨ r = 13 ∨ r = 8232 ∨ r = 8233 ∨ ¬ NL r := by unfold NL; omega
            rcases hr with rfl | rfl | rfl | rfl | hr
            · go_wp2_with (go_at_call 63; refine DD.out.mono ?_; rintro _ w3 ⟨rfl, hb3⟩)
              go_meet
              exact ⟨i, rfl, hi, Or.inr (HN.out.1 (by unfold NL; omega)), BW.out.trans (hb3.mono BW.out.size)⟩
            · go_wp2_with (go_at_call 63; refine DD.out.mono ?_; rintro _ w3 ⟨rfl, hb3⟩)
              go_meet
              exact ⟨i, rfl, hi, Or.inr (HN.out.1 (by unfold NL; omega)), BW.out.trans (hb3.mono BW.out.size)⟩
            · go_wp2_with (go_at_call 63; refine DD.out.mono ?_; rintro _ w3 ⟨rfl, hb3⟩)
              go_meet
              exact ⟨i, rfl, hi, Or.inr (HN.out.1 (by unfold NL; omega)), BW.out.trans (hb3.mono BW.out.size)⟩
            · go_wp2_with (go_at_call 63; refine DD.out.mono ?_; rintro _ w3 ⟨rfl, hb3⟩)
              go_meet
              exact ⟨i, rfl, hi, Or.inr (HN.out.1 (by unfold NL; omega)), BW.out.trans (hb3.mono BW.out.size)⟩
            · have r1 : ((r : Int) == 10) = false := by simp; intro e; exact hr (by unfold NL; omega)
              have r2 : ((r : Int) == 13) = false := by simp; intro e; exact hr (by unfold NL; omega)
              have r3 : ((r : Int) == 8232) = false := by simp; intro e; exact hr (by unfold NL; omega)
              have r4 : ((r : Int) == 8233) = false := by simp; intro e; exact hr (by unfold NL; omega)
              clear hr
              go_wp2_with (go_at_call 63; refine DD.out.mono ?_; rintro _ w3 ⟨rfl, hb3⟩)
              refine ⟨⟨i - k, by congr 1; omega, by omega, BW.out.trans (hb3.mono BW.out.size)⟩, by simp [intOf]; omega⟩
      case rest =>
        obtain ⟨i, rfl, hi, hiE, hbc⟩ := hcut
        have t2 := HT.out.of_block (hbc.block b hb1)
        have TS := Lib.hid ((t2.set_hs true).set_ls i)
        have CHS := Lib.hid (((CH.out.below hbw hbc).set 7 (by omega) (by omega) (.bool true)).set 5 (by omega) (by omega) (.int .i32 i))
        have GS := Lib.hid (show Good s off i le true false from ⟨GG.out.1, fun _ => ⟨hi, hiE⟩, GG.out.2.2⟩)
        have e5 := t2.c5
        have e7 := t2.c7
        have y5 := t2.fz (o + 5)
        have y7 := t2.fz (o + 7)
        have UU2 := Lib.hid (show Tabs ((wc.setCell ⟨b, o + 7, none⟩ (.bool true)).setCell ⟨b, o + 5, none⟩ (.int .i32 i)) from HU.out.tch CHS.out HB.out)
        have hb2 : b < ((wc.setCell ⟨b, o + 7, none⟩ (.bool true)).setCell ⟨b, o + 5, none⟩ (.int .i32 i)).heap.size := TS.out.lt
        clear d0 d3 d4 d5 d6 d7 d8 z5 z6 z7 z8 t2 hbc
        go_upto_region 11 with fail
        clear e5 e7 y5 y7
        generalize (wc.setCell ⟨b, o + 7, none⟩ (.bool true)).setCell ⟨b, o + 5, none⟩ (.int .i32 i) = w2 at *
        have d0 := TS.out.c0
        have d3 := TS.out.c3
        have d4 := TS.out.c4
        have d5 := TS.out.c5
        have d6 := TS.out.c6
        have d7 := TS.out.c7
        have d8 := TS.out.c8
        have z5 := TS.out.fz (o + 5)
        have z6 := TS.out.fz (o + 6)
        have z7 := TS.out.fz (o + 7)
        have z8 := TS.out.fz (o + 8)
        go_upto_block 2 with (fail)
        go_cut [13] (fun v wx => CutB s off w2 v wx)
        case first =>
          go_wp2_with fail
          go_loopw [13] (RC w2 off s.size) (fun v _ => s.size - (intOf v).toNat)
          case atStart => exact ⟨off, rfl, Nat.le_refl _, hof, Below.refl _ _⟩
          case round =>
            obtain ⟨i, rfl, hi, hi2, hbw⟩ := hrel
            have BW := Lib.hid hbw
            by_cases hi0 : i = s.size
            · subst hi0
              clear hbw
              go_wp2_with fail
              go_meet
              exact ⟨s.size, rfl, hi, Nat.le_refl _, Or.inl rfl, BW.out⟩
            · have hiz : (i : Int) < s.size := by omega
              obtain ⟨r, k, hD, k1, kle, hnl, hend, hjump⟩ := fwd s i (by omega)
              have D : ∀ w1, Tabs w1 → Calls Tryf.prog 64 #[.string (s.extract i s.size)] w1 fun e w' => e = .returned (.tuple #[.int .i32 r, .int .i64 k]) ∧ Below w1.heap.size w1 w' := fun w1 h => by
                have := Tryf.utf8_DecodeRuneInString (s.extract i s.size) w1 h
                rw [hD] at this
                exact this
              have DD := Lib.hid (D _ (Go.Proofs.Utf8Tabs_below UU2.out hbw))
              have HN := Lib.hid hnl
              have ik : (i : Int) + k ≤ 1048576 := by omega
              clear D hD hbw hnl hend hjump
              have hr : r = 10 ∨ r = 13 ∨ r = 8232 ∨ r = 8233 ∨ ¬ NL r := by unfold NL; omega
              rcases hr with rfl | rfl | rfl | rfl | hr
              · go_wp2_with (go_at_call 64; refine DD.out.mono ?_; rintro _ w3 ⟨rfl, hb3⟩)
                go_meet
                exact ⟨i, rfl, hi, hi2, Or.inr (HN.out.1 (by unfold NL; omega)), BW.out.trans (hb3.mono BW.out.size)⟩
              · go_wp2_with (go_at_call 64; refine DD.out.mono ?_; rintro _ w3 ⟨rfl, hb3⟩)
                go_meet
                exact ⟨i, rfl, hi, hi2, Or.inr (HN.out.1 (by unfold NL; omega)), BW.out.trans (hb3.mono BW.out.size)⟩
              · go_wp2_with (go_at_call 64; refine DD.out.mono ?_; rintro _ w3 ⟨rfl, hb3⟩)
                go_meet
                exact ⟨i, rfl, hi, hi2, Or.inr (HN.out.1 (by unfold NL; omega)), BW.out.trans (hb3.mono BW.out.size)⟩
              · go_wp2_with (go_at_call 64; refine DD.out.mono ?_; rintro _ w3 ⟨rfl, hb3⟩)
                go_meet
                exact ⟨i, rfl, hi, hi2, Or.inr (HN.out.1 (by unfold NL; omega)), BW.out.trans (hb3.mono BW.out.size)⟩
              · have r1 : ((r : Int) == 10) = false := by simp; intro e; exact hr (by unfold NL; omega)
                have r2 : ((r : Int) == 13) = false := by simp; intro e; exact hr (by unfold NL; omega)
                have r3 : ((r : Int) == 8232) = false := by simp; intro e; exact hr (by unfold NL; omega)
                have r4 : ((r : Int) == 8233) = false := by simp; intro e; exact hr (by unfold NL; omega)
                clear hr
                go_wp2_with (go_at_call 64; refine DD.out.mono ?_; rintro _ w3 ⟨rfl, hb3⟩)
                refine ⟨⟨i + k, by congr 1, by omega, by omega, BW.out.trans (hb3.mono BW.out.size)⟩, by simp [intOf]; omega⟩
        case rest =>
          obtain ⟨j, rfl, hj, hj2, hjE, hbc⟩ := hcut
          have t3 := TS.out.of_block (hbc.block b hb2)
          have TB := Lib.hid ((t3.set_he true).set_le j)
          have CHB := Lib.hid (((CHS.out.below hbw hbc).set 8 (by omega) (by omega) (.bool true)).set 6 (by omega) (by omega) (.int .i32 j))
          have GB := Lib.hid (show Good s off i j true true from ⟨GS.out.1, GS.out.2.1, fun _ => ⟨hj, hj2, hjE⟩⟩)
          have e6 := t3.c6
          have e8 := t3.c8
          have y6 := t3.fz (o + 6)
          have y8 := t3.fz (o + 8)
          clear d0 d3 d4 d5 d6 d7 d8 z5 z6 z7 z8 t3 hbc
          go_upto_region 21 with fail
          clear e6 e8 y6 y8
          generalize (wc.setCell ⟨b, o + 8, none⟩ (.bool true)).setCell ⟨b, o + 6, none⟩ (.int .i32 j) = w4 at *
          have d0 := TB.out.c0
          have d3 := TB.out.c3
          have d4 := TB.out.c4
          have d5 := TB.out.c5
          have d6 := TB.out.c6
          have d7 := TB.out.c7
          have d8 := TB.out.c8
          have z5 := TB.out.fz (o + 5)
          have z6 := TB.out.fz (o + 6)
          have z7 := TB.out.fz (o + 7)
          have z8 := TB.out.fz (o + 8)
          have hl1 := (GB.out.2.1 rfl).1
          have hl2 := (GB.out.2.2 rfl).2.1
          have hlz : (i : Int) ≤ 1048576 := by omega
          have hez : (j : Int) ≤ 1048576 := by omega
          go_upto_region 21 with fail
          go_quiet (fail)
          go_wp2_with fail
          refine bodyPost_ret (by simp [results, Tryf.results60, go_sem]; rfl) rfl ?_
          exact ⟨_, _, _, _, _, _, rfl, TB.out.of_block rfl, GB.out, CHB.out.trans (Tch.of (tdN (Touch.refl _ _) _) TB.out.lt)⟩
end Go.Proofs.YtfnicbfdfceagaaFmt.lg
