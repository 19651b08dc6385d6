/-
  The tracker's scan, walked.
-/
import Derived.Test.YtfnicbfdfceagaaFmtLt
namespace Go.Proofs.YtfnicbfdfceagaaFmt.lg
open Go.ChangeShapes Go.WideShapes Go.ChangeAt Go.RowKit Go.Deep
set_option linter.unusedVariables false
set_option linter.unusedSimpArgs false
set_option maxRecDepth 100000
set_option maxHeartbeats 4000000
/-- A sound tracker over s. -/
def TG (w : World) (b o : Nat) (s : ByteArray) : Prop := ∃ off line ls le hs he, Tk w b o s off line ls le hs he ∧ Good s off ls le hs he
theorem TG.mk {w : World} {b o : Nat} {s : ByteArray} {off : Nat} {line : Int} {ls le : Nat} {hs he : Bool} (t : Tk w b o s off line ls le hs he) (g : Good s off ls le hs he) : TG w b o s := ⟨_, _, _, _, _, _, t, g⟩
def RF (w : World) (b o : Nat) (s : ByteArray) (off n : Nat) (v : Value) (wr : World) : Prop := ∃ (i : Nat) (line : Int) (ls le : Nat) (hs he : Bool), v = .int .i32 i ∧ i < n ∧ Tk wr b o s off line ls le hs he ∧ Good s i ls le hs he ∧ Tch b o w wr
def RB (w : World) (b o : Nat) (s : ByteArray) (off n : Nat) (v : Value) (wr : World) : Prop := ∃ (i : Nat) (line : Int) (ls le : Nat) (hs he : Bool), v = .int .i32 i ∧ (n < i ∧ i ≤ s.size) ∧ Tk wr b o s off line ls le hs he ∧ Good s i ls le hs he ∧ Tch b o w wr
theorem relF {w wr : World} {b o off n : Nat} {s : ByteArray} {line : Int} {ls le : Nat} {hs he : Bool} (m : Nat) (h : m < n) (t : Tk wr b o s off line ls le hs he) (g : Good s m ls le hs he) (c : Tch b o w wr) : RF w b o s off n (.int .i32 (m : Int)) wr := ⟨m, _, _, _, _, _, rfl, h, t, g, c⟩
theorem relB {w wr : World} {b o off n : Nat} {s : ByteArray} {line : Int} {ls le : Nat} {hs he : Bool} (m : Nat) (h : n < m ∧ m ≤ s.size) (t : Tk wr b o s off line ls le hs he) (g : Good s m ls le hs he) (c : Tch b o w wr) : RB w b o s off n (.int .i32 (m : Int)) wr := ⟨m, _, _, _, _, _, rfl, h, t, g, c⟩
def ScanP (w : World) (b o : Nat) (s : ByteArray) (e : Ending) (w' : World) : Prop := e = .returned (.tuple #[]) ∧ TG w' b o s ∧ Tch b o w w'
theorem ScanP.mk {w w' : World} {b o : Nat} {s : ByteArray} (h : TG w' b o s) (c : Tch b o w w') : ScanP w b o s (.returned (.tuple #[])) w' := ⟨rfl, h, c⟩
theorem scan62f (w : World) (b o : Nat) (s : ByteArray) (off : Nat) (line : Int) (ls le : Nat) (hs he : Bool) (n : Nat) (T : Tk w b o s off line ls le hs he) (G : Good s off ls le hs he) (hn : n ≤ s.size) (hsz : s.size ≤ 1048576) (U : Tabs w) (hb : 2 ≤ b) (hlt : off < n) :
    Calls Tryf.prog 62 #[ptr b o, .int .i32 n] w (ScanP w b o s) := by
  have c0 := T.c0
  have c3 := T.c3
  have HT := Lib.hid T
  have HG := Lib.hid G
  have HB := Lib.hid hb
  have HU := Lib.hid U
  have go0 := G.1
  clear T G U hb
  go_enter Tryf.func62, Tryf.ntmps62
  go_wp2
  go_loopw [5] (RF w b o s off n) (fun v _ => n - (intOf v).toNat)
  case atStart => exact ⟨off, line, ls, le, hs, he, rfl, hlt, HT.out, HG.out, Tch.refl b o w⟩
  case round =>
    obtain ⟨i, line1, ls1, le1, hs1, he1, rfl, hin, t, g, ch⟩ := hrel
    obtain ⟨r, k, hD, k1, kle, hnl, hend, hjump⟩ := fwd s i (by omega)
    have D : ∀ w1, Tabs w1 → Calls Tryf.prog 64 #[.string (s.extract i s.size)] w1 fun e w' => e = .returned (.tuple #[.int .i32 r, .int .i64 k]) ∧ Below w1.heap.size w1 w' := fun w1 h => by
      have := Tryf.utf8_DecodeRuneInString (s.extract i s.size) w1 h
      rw [hD] at this
      exact this
    have DD := Lib.hid (D wr (HU.out.tch ch HB.out))
    have ib : (i : Int) ≤ s.size := by omega
    have ik : (i : Int) + k ≤ 1048576 := by omega
    clear D hD
    go_upto_region 5 with (go_at_call 64; refine DD.out.mono ?_; rintro _ w1 ⟨rfl, hb1⟩)
    obtain ⟨m, hm⟩ : ∃ m, i + k = m := ⟨_, rfl⟩
    have em : (i : Int) + k = m := by omega
    rw [em]
    rw [em] at ik
    have hmz : (m : Int) ≤ s.size := by omega
    clear em
    have hbw : b < w.heap.size := HT.out.lt
    have t1 := t.of_block (hb1.block b t.lt)
    have CH := Lib.hid (ch.below hbw hb1)
    have T1 := Lib.hid t1
    have d3 := t1.c3
    have z3 := t1.fz (o + 3)
    have d4 := t1.c4
    have z4 := t1.fz (o + 4)
    have d5 := t1.c5
    have z5 := t1.fz (o + 5)
    have d7 := t1.c7
    have z7 := t1.fz (o + 7)
    have d8 := t1.c8
    have z8 := t1.fz (o + 8)
    clear t ch t1 hb1 DD c0 c3
    have G1 := Lib.hid g
    have HL := Lib.hid (And.intro hnl (And.intro hend hjump))
    clear g hnl hend hjump
    have hr : r = 10 ∨ r = 13 ∨ r = 8232 ∨ r = 8233 ∨ ¬ NL r := by unfold NL; omega
    rcases hr with rfl | rfl | rfl | rfl | hr
    · have hE := HL.out.2.1 (by unfold NL; omega)
      have GN : Hid (∀ x, Good s m m x true false) := Lib.hid (fun x => hm ▸ G1.out.fwdNL kle hE x)
      clear hE
      by_cases hi : i = 0
      · have hz : ((m : Int) == k) = true := by simp; omega
        go_wp2
        all_goals first
          | (refine ⟨?_, by simp [intOf]; omega⟩; first | with_reducible exact relF (n := n) m (by omega) ((((T1.out.set_hs true).set_he false).set_ls m).set_line _) (GN.out _) ((((CH.out.set 7 (by omega) (by omega) _).set 8 (by omega) (by omega) _).set 5 (by omega) (by omega) _).set 4 (by omega) (by omega) _) | exact relF (n := n) m (by omega) ((((T1.out.set_hs true).set_he false).set_ls m).set_line _) (GN.out _) ((((CH.out.set 7 (by omega) (by omega) _).set 8 (by omega) (by omega) _).set 5 (by omega) (by omega) _).set 4 (by omega) (by omega) _))
          | (refine bodyPost_ret (results_none rfl _ _ _) rfl ?_; first | with_reducible exact ScanP.mk (TG.mk (((((T1.out.set_hs true).set_he false).set_ls m).set_line _).set_off m) (GN.out _)) (((((CH.out.set 7 (by omega) (by omega) _).set 8 (by omega) (by omega) _).set 5 (by omega) (by omega) _).set 4 (by omega) (by omega) _).set 3 (by omega) (by omega) _) | exact ScanP.mk (TG.mk (((((T1.out.set_hs true).set_he false).set_ls m).set_line _).set_off m) (GN.out _)) (((((CH.out.set 7 (by omega) (by omega) _).set 8 (by omega) (by omega) _).set 5 (by omega) (by omega) _).set 4 (by omega) (by omega) _).set 3 (by omega) (by omega) _))
      · have hz : ((m : Int) == k) = false := by simp; omega
        have hmk : (m : Int) - k = i := by omega
        go_wp2
        all_goals first
          | (refine ⟨?_, by simp [intOf]; omega⟩; first | with_reducible exact relF (n := n) m (by omega) ((((T1.out.set_hs true).set_he false).set_ls m).set_line _) (GN.out _) ((((CH.out.set 7 (by omega) (by omega) _).set 8 (by omega) (by omega) _).set 5 (by omega) (by omega) _).set 4 (by omega) (by omega) _) | with_reducible exact relF (n := n) m (by omega) (((T1.out.set_hs true).set_he false).set_ls m) (GN.out _) (((CH.out.set 7 (by omega) (by omega) _).set 8 (by omega) (by omega) _).set 5 (by omega) (by omega) _))
          | (refine bodyPost_ret (results_none rfl _ _ _) rfl ?_; first | with_reducible exact ScanP.mk (TG.mk (((((T1.out.set_hs true).set_he false).set_ls m).set_line _).set_off m) (GN.out _)) (((((CH.out.set 7 (by omega) (by omega) _).set 8 (by omega) (by omega) _).set 5 (by omega) (by omega) _).set 4 (by omega) (by omega) _).set 3 (by omega) (by omega) _) | with_reducible exact ScanP.mk (TG.mk ((((T1.out.set_hs true).set_he false).set_ls m).set_off m) (GN.out _)) ((((CH.out.set 7 (by omega) (by omega) _).set 8 (by omega) (by omega) _).set 5 (by omega) (by omega) _).set 3 (by omega) (by omega) _))
    · have hE := HL.out.2.1 (by unfold NL; omega)
      have GN : Hid (∀ x, Good s m m x true false) := Lib.hid (fun x => hm ▸ G1.out.fwdNL kle hE x)
      clear hE
      go_wp2
      all_goals first
        | (refine ⟨?_, by simp [intOf]; omega⟩; first | with_reducible exact relF (n := n) m (by omega) ((((T1.out.set_hs true).set_he false).set_ls m).set_line _) (GN.out _) ((((CH.out.set 7 (by omega) (by omega) _).set 8 (by omega) (by omega) _).set 5 (by omega) (by omega) _).set 4 (by omega) (by omega) _) | exact relF (n := n) m (by omega) ((((T1.out.set_hs true).set_he false).set_ls m).set_line _) (GN.out _) ((((CH.out.set 7 (by omega) (by omega) _).set 8 (by omega) (by omega) _).set 5 (by omega) (by omega) _).set 4 (by omega) (by omega) _))
        | (refine bodyPost_ret (results_none rfl _ _ _) rfl ?_; first | with_reducible exact ScanP.mk (TG.mk (((((T1.out.set_hs true).set_he false).set_ls m).set_line _).set_off m) (GN.out _)) (((((CH.out.set 7 (by omega) (by omega) _).set 8 (by omega) (by omega) _).set 5 (by omega) (by omega) _).set 4 (by omega) (by omega) _).set 3 (by omega) (by omega) _) | exact ScanP.mk (TG.mk (((((T1.out.set_hs true).set_he false).set_ls m).set_line _).set_off m) (GN.out _)) (((((CH.out.set 7 (by omega) (by omega) _).set 8 (by omega) (by omega) _).set 5 (by omega) (by omega) _).set 4 (by omega) (by omega) _).set 3 (by omega) (by omega) _))
    · have hE := HL.out.2.1 (by unfold NL; omega)
      have GN : Hid (∀ x, Good s m m x true false) := Lib.hid (fun x => hm ▸ G1.out.fwdNL kle hE x)
      clear hE
      go_wp2
      all_goals first
        | (refine ⟨?_, by simp [intOf]; omega⟩; first | with_reducible exact relF (n := n) m (by omega) ((((T1.out.set_hs true).set_he false).set_ls m).set_line _) (GN.out _) ((((CH.out.set 7 (by omega) (by omega) _).set 8 (by omega) (by omega) _).set 5 (by omega) (by omega) _).set 4 (by omega) (by omega) _) | exact relF (n := n) m (by omega) ((((T1.out.set_hs true).set_he false).set_ls m).set_line _) (GN.out _) ((((CH.out.set 7 (by omega) (by omega) _).set 8 (by omega) (by omega) _).set 5 (by omega) (by omega) _).set 4 (by omega) (by omega) _))
        | (refine bodyPost_ret (results_none rfl _ _ _) rfl ?_; first | with_reducible exact ScanP.mk (TG.mk (((((T1.out.set_hs true).set_he false).set_ls m).set_line _).set_off m) (GN.out _)) (((((CH.out.set 7 (by omega) (by omega) _).set 8 (by omega) (by omega) _).set 5 (by omega) (by omega) _).set 4 (by omega) (by omega) _).set 3 (by omega) (by omega) _) | exact ScanP.mk (TG.mk (((((T1.out.set_hs true).set_he false).set_ls m).set_line _).set_off m) (GN.out _)) (((((CH.out.set 7 (by omega) (by omega) _).set 8 (by omega) (by omega) _).set 5 (by omega) (by omega) _).set 4 (by omega) (by omega) _).set 3 (by omega) (by omega) _))
    · have hE := HL.out.2.1 (by unfold NL; omega)
      have GN : Hid (∀ x, Good s m m x true false) := Lib.hid (fun x => hm ▸ G1.out.fwdNL kle hE x)
      clear hE
      go_wp2
      all_goals first
        | (refine ⟨?_, by simp [intOf]; omega⟩; first | with_reducible exact relF (n := n) m (by omega) ((((T1.out.set_hs true).set_he false).set_ls m).set_line _) (GN.out _) ((((CH.out.set 7 (by omega) (by omega) _).set 8 (by omega) (by omega) _).set 5 (by omega) (by omega) _).set 4 (by omega) (by omega) _) | exact relF (n := n) m (by omega) ((((T1.out.set_hs true).set_he false).set_ls m).set_line _) (GN.out _) ((((CH.out.set 7 (by omega) (by omega) _).set 8 (by omega) (by omega) _).set 5 (by omega) (by omega) _).set 4 (by omega) (by omega) _))
        | (refine bodyPost_ret (results_none rfl _ _ _) rfl ?_; first | with_reducible exact ScanP.mk (TG.mk (((((T1.out.set_hs true).set_he false).set_ls m).set_line _).set_off m) (GN.out _)) (((((CH.out.set 7 (by omega) (by omega) _).set 8 (by omega) (by omega) _).set 5 (by omega) (by omega) _).set 4 (by omega) (by omega) _).set 3 (by omega) (by omega) _) | exact ScanP.mk (TG.mk (((((T1.out.set_hs true).set_he false).set_ls m).set_line _).set_off m) (GN.out _)) (((((CH.out.set 7 (by omega) (by omega) _).set 8 (by omega) (by omega) _).set 5 (by omega) (by omega) _).set 4 (by omega) (by omega) _).set 3 (by omega) (by omega) _))
    · have GN := Lib.hid (show Good s m ls1 le1 hs1 he1 from hm ▸ G1.out.fwdNo (by omega) kle (fun e => hr (HL.out.1.2 e)) HL.out.2.2)
      have r1 : ((r : Int) == 10) = false := by simp; intro e; exact hr (by unfold NL; omega)
      have r2 : ((r : Int) == 13) = false := by simp; intro e; exact hr (by unfold NL; omega)
      have r3 : ((r : Int) == 8232) = false := by simp; intro e; exact hr (by unfold NL; omega)
      have r4 : ((r : Int) == 8233) = false := by simp; intro e; exact hr (by unfold NL; omega)
      clear hr
      go_wp2
      all_goals first
        | (refine ⟨?_, by simp [intOf]; omega⟩; first | with_reducible exact relF (n := n) m (by omega) (T1.out) (GN.out) (CH.out) | exact relF (n := n) m (by omega) (T1.out) (GN.out) (CH.out))
        | (refine bodyPost_ret (results_none rfl _ _ _) rfl ?_; first | with_reducible exact ScanP.mk (TG.mk ((T1.out).set_off m) (GN.out)) ((CH.out).set 3 (by omega) (by omega) _) | exact ScanP.mk (TG.mk ((T1.out).set_off m) (GN.out)) ((CH.out).set 3 (by omega) (by omega) _))
theorem scan62b (w : World) (b o : Nat) (s : ByteArray) (off : Nat) (line : Int) (ls le : Nat) (hs he : Bool) (n : Nat) (T : Tk w b o s off line ls le hs he) (G : Good s off ls le hs he) (hn : n ≤ s.size) (hsz : s.size ≤ 1048576) (U : Tabs w) (hb : 2 ≤ b) (hlt : n < off) :
    Calls Tryf.prog 62 #[ptr b o, .int .i32 n] w (ScanP w b o s) := by
  have q1 : decide ((off : Int) < n) = false := by simp; omega
  have q2 : decide (off < n) = false := by simp; omega
  have c0 := T.c0
  have c3 := T.c3
  have HT := Lib.hid T
  have HG := Lib.hid G
  have HB := Lib.hid hb
  have HU := Lib.hid U
  have go0 := G.1
  clear T G U hb
  go_enter Tryf.func62, Tryf.ntmps62
  go_wp2
  go_loopw [5] (RB w b o s off n) (fun v _ => (intOf v).toNat)
  case atStart => exact ⟨off, line, ls, le, hs, he, rfl, ⟨hlt, HG.out.1⟩, HT.out, HG.out, Tch.refl b o w⟩
  case round =>
    obtain ⟨i, line1, ls1, le1, hs1, he1, rfl, ⟨hin, his⟩, t, g, ch⟩ := hrel
    obtain ⟨r, k, hD, k1, kle, hnl, hend, hjump⟩ := bwd s i (by omega) his
    have D : ∀ w1, Tabs w1 → Calls Tryf.prog 63 #[.string (s.extract 0 i)] w1 fun e w' => e = .returned (.tuple #[.int .i32 r, .int .i64 k]) ∧ Below w1.heap.size w1 w' := fun w1 h => by
      have := Tryf.utf8_DecodeLastRuneInString (s.extract 0 i) w1 (by simp; omega) h
      rw [hD] at this
      exact this
    have DD := Lib.hid (D wr (HU.out.tch ch HB.out))
    have ib : (i : Int) ≤ s.size := by omega
    have ik : (k : Int) ≤ i := by omega
    clear D hD
    go_upto_region 24 with (go_at_call 63; refine DD.out.mono ?_; rintro _ w1 ⟨rfl, hb1⟩)
    obtain ⟨m, hm⟩ : ∃ m, i - k = m := ⟨_, rfl⟩
    have em : (i : Int) - k = m := by omega
    rw [em]
    have hmz : (m : Int) ≤ s.size := by omega
    clear em
    have hbw : b < w.heap.size := HT.out.lt
    have t1 := t.of_block (hb1.block b t.lt)
    have CH := Lib.hid (ch.below hbw hb1)
    have T1 := Lib.hid t1
    have d3 := t1.c3
    have z3 := t1.fz (o + 3)
    have d4 := t1.c4
    have z4 := t1.fz (o + 4)
    have d6 := t1.c6
    have z6 := t1.fz (o + 6)
    have d7 := t1.c7
    have z7 := t1.fz (o + 7)
    have d8 := t1.c8
    have z8 := t1.fz (o + 8)
    clear t ch t1 hb1 DD c0 c3
    have G1 := Lib.hid g
    have HL := Lib.hid (And.intro hnl (And.intro hend hjump))
    clear g hnl hend hjump
    have hr : r = 10 ∨ r = 13 ∨ r = 8232 ∨ r = 8233 ∨ ¬ NL r := by unfold NL; omega
    rcases hr with rfl | rfl | rfl | rfl | hr
    · have hE := HL.out.2.1 (by unfold NL; omega)
      have GN : Hid (∀ x, Good s m x m false true) := Lib.hid (fun x => hm ▸ G1.out.bwdNL hE x)
      clear hE
      by_cases hi : m = 0
      · subst hi
        go_wp2
        all_goals first
          | (refine ⟨?_, by simp [intOf]; omega⟩; first | with_reducible exact relB (n := n) (s := s) 0 ⟨by omega, by omega⟩ ((((T1.out.set_hs false).set_he true).set_le 0).set_line _) (GN.out _) ((((CH.out.set 7 (by omega) (by omega) _).set 8 (by omega) (by omega) _).set 6 (by omega) (by omega) _).set 4 (by omega) (by omega) _) | exact relB (n := n) (s := s) 0 ⟨by omega, by omega⟩ ((((T1.out.set_hs false).set_he true).set_le 0).set_line _) (GN.out _) ((((CH.out.set 7 (by omega) (by omega) _).set 8 (by omega) (by omega) _).set 6 (by omega) (by omega) _).set 4 (by omega) (by omega) _))
          | (refine bodyPost_ret (results_none rfl _ _ _) rfl ?_; first | with_reducible exact ScanP.mk (TG.mk (((((T1.out.set_hs false).set_he true).set_le 0).set_line _).set_off 0) (GN.out _)) (((((CH.out.set 7 (by omega) (by omega) _).set 8 (by omega) (by omega) _).set 6 (by omega) (by omega) _).set 4 (by omega) (by omega) _).set 3 (by omega) (by omega) _) | exact ScanP.mk (TG.mk (((((T1.out.set_hs false).set_he true).set_le 0).set_line _).set_off 0) (GN.out _)) (((((CH.out.set 7 (by omega) (by omega) _).set 8 (by omega) (by omega) _).set 6 (by omega) (by omega) _).set 4 (by omega) (by omega) _).set 3 (by omega) (by omega) _))
      · have hz : ((m : Int) == 0) = false := by simp; omega
        go_wp2
        all_goals first
          | (refine ⟨?_, by simp [intOf]; omega⟩; first | with_reducible exact relB (n := n) (s := s) m ⟨by omega, by omega⟩ ((((T1.out.set_hs false).set_he true).set_le m).set_line _) (GN.out _) ((((CH.out.set 7 (by omega) (by omega) _).set 8 (by omega) (by omega) _).set 6 (by omega) (by omega) _).set 4 (by omega) (by omega) _) | with_reducible exact relB (n := n) (s := s) m ⟨by omega, by omega⟩ (((T1.out.set_hs false).set_he true).set_le m) (GN.out _) (((CH.out.set 7 (by omega) (by omega) _).set 8 (by omega) (by omega) _).set 6 (by omega) (by omega) _))
          | (refine bodyPost_ret (results_none rfl _ _ _) rfl ?_; first | with_reducible exact ScanP.mk (TG.mk (((((T1.out.set_hs false).set_he true).set_le m).set_line _).set_off m) (GN.out _)) (((((CH.out.set 7 (by omega) (by omega) _).set 8 (by omega) (by omega) _).set 6 (by omega) (by omega) _).set 4 (by omega) (by omega) _).set 3 (by omega) (by omega) _) | with_reducible exact ScanP.mk (TG.mk ((((T1.out.set_hs false).set_he true).set_le m).set_off m) (GN.out _)) ((((CH.out.set 7 (by omega) (by omega) _).set 8 (by omega) (by omega) _).set 6 (by omega) (by omega) _).set 3 (by omega) (by omega) _))
    · have hE := HL.out.2.1 (by unfold NL; omega)
      have GN : Hid (∀ x, Good s m x m false true) := Lib.hid (fun x => hm ▸ G1.out.bwdNL hE x)
      clear hE
      go_wp2
      all_goals first
        | (refine ⟨?_, by simp [intOf]; omega⟩; first | with_reducible exact relB (n := n) (s := s) m ⟨by omega, by omega⟩ ((((T1.out.set_hs false).set_he true).set_le m).set_line _) (GN.out _) ((((CH.out.set 7 (by omega) (by omega) _).set 8 (by omega) (by omega) _).set 6 (by omega) (by omega) _).set 4 (by omega) (by omega) _) | exact relB (n := n) (s := s) m ⟨by omega, by omega⟩ ((((T1.out.set_hs false).set_he true).set_le m).set_line _) (GN.out _) ((((CH.out.set 7 (by omega) (by omega) _).set 8 (by omega) (by omega) _).set 6 (by omega) (by omega) _).set 4 (by omega) (by omega) _))
        | (refine bodyPost_ret (results_none rfl _ _ _) rfl ?_; first | with_reducible exact ScanP.mk (TG.mk (((((T1.out.set_hs false).set_he true).set_le m).set_line _).set_off m) (GN.out _)) (((((CH.out.set 7 (by omega) (by omega) _).set 8 (by omega) (by omega) _).set 6 (by omega) (by omega) _).set 4 (by omega) (by omega) _).set 3 (by omega) (by omega) _) | exact ScanP.mk (TG.mk (((((T1.out.set_hs false).set_he true).set_le m).set_line _).set_off m) (GN.out _)) (((((CH.out.set 7 (by omega) (by omega) _).set 8 (by omega) (by omega) _).set 6 (by omega) (by omega) _).set 4 (by omega) (by omega) _).set 3 (by omega) (by omega) _))
    · have hE := HL.out.2.1 (by unfold NL; omega)
      have GN : Hid (∀ x, Good s m x m false true) := Lib.hid (fun x => hm ▸ G1.out.bwdNL hE x)
      clear hE
      go_wp2
      all_goals first
        | (refine ⟨?_, by simp [intOf]; omega⟩; first | with_reducible exact relB (n := n) (s := s) m ⟨by omega, by omega⟩ ((((T1.out.set_hs false).set_he true).set_le m).set_line _) (GN.out _) ((((CH.out.set 7 (by omega) (by omega) _).set 8 (by omega) (by omega) _).set 6 (by omega) (by omega) _).set 4 (by omega) (by omega) _) | exact relB (n := n) (s := s) m ⟨by omega, by omega⟩ ((((T1.out.set_hs false).set_he true).set_le m).set_line _) (GN.out _) ((((CH.out.set 7 (by omega) (by omega) _).set 8 (by omega) (by omega) _).set 6 (by omega) (by omega) _).set 4 (by omega) (by omega) _))
        | (refine bodyPost_ret (results_none rfl _ _ _) rfl ?_; first | with_reducible exact ScanP.mk (TG.mk (((((T1.out.set_hs false).set_he true).set_le m).set_line _).set_off m) (GN.out _)) (((((CH.out.set 7 (by omega) (by omega) _).set 8 (by omega) (by omega) _).set 6 (by omega) (by omega) _).set 4 (by omega) (by omega) _).set 3 (by omega) (by omega) _) | exact ScanP.mk (TG.mk (((((T1.out.set_hs false).set_he true).set_le m).set_line _).set_off m) (GN.out _)) (((((CH.out.set 7 (by omega) (by omega) _).set 8 (by omega) (by omega) _).set 6 (by omega) (by omega) _).set 4 (by omega) (by omega) _).set 3 (by omega) (by omega) _))
    · have hE := HL.out.2.1 (by unfold NL; omega)
      have GN : Hid (∀ x, Good s m x m false true) := Lib.hid (fun x => hm ▸ G1.out.bwdNL hE x)
      clear hE
      go_wp2
      all_goals first
        | (refine ⟨?_, by simp [intOf]; omega⟩; first | with_reducible exact relB (n := n) (s := s) m ⟨by omega, by omega⟩ ((((T1.out.set_hs false).set_he true).set_le m).set_line _) (GN.out _) ((((CH.out.set 7 (by omega) (by omega) _).set 8 (by omega) (by omega) _).set 6 (by omega) (by omega) _).set 4 (by omega) (by omega) _) | exact relB (n := n) (s := s) m ⟨by omega, by omega⟩ ((((T1.out.set_hs false).set_he true).set_le m).set_line _) (GN.out _) ((((CH.out.set 7 (by omega) (by omega) _).set 8 (by omega) (by omega) _).set 6 (by omega) (by omega) _).set 4 (by omega) (by omega) _))
        | (refine bodyPost_ret (results_none rfl _ _ _) rfl ?_; first | with_reducible exact ScanP.mk (TG.mk (((((T1.out.set_hs false).set_he true).set_le m).set_line _).set_off m) (GN.out _)) (((((CH.out.set 7 (by omega) (by omega) _).set 8 (by omega) (by omega) _).set 6 (by omega) (by omega) _).set 4 (by omega) (by omega) _).set 3 (by omega) (by omega) _) | exact ScanP.mk (TG.mk (((((T1.out.set_hs false).set_he true).set_le m).set_line _).set_off m) (GN.out _)) (((((CH.out.set 7 (by omega) (by omega) _).set 8 (by omega) (by omega) _).set 6 (by omega) (by omega) _).set 4 (by omega) (by omega) _).set 3 (by omega) (by omega) _))
    · have GN := Lib.hid (show Good s m ls1 le1 hs1 he1 from hm ▸ G1.out.bwdNo (fun e => hr (HL.out.1.2 e)) (by omega) (HL.out.2.2 hr))
      have r1 : ((r : Int) == 10) = false := by simp; intro e; exact hr (by unfold NL; omega)
      have r2 : ((r : Int) == 13) = false := by simp; intro e; exact hr (by unfold NL; omega)
      have r3 : ((r : Int) == 8232) = false := by simp; intro e; exact hr (by unfold NL; omega)
      have r4 : ((r : Int) == 8233) = false := by simp; intro e; exact hr (by unfold NL; omega)
      clear hr
      go_wp2
      all_goals first
        | (refine ⟨?_, by simp [intOf]; omega⟩; first | with_reducible exact relB (n := n) (s := s) m ⟨by omega, by omega⟩ (T1.out) (GN.out) (CH.out) | exact relB (n := n) (s := s) m ⟨by omega, by omega⟩ (T1.out) (GN.out) (CH.out))
        | (refine bodyPost_ret (results_none rfl _ _ _) rfl ?_; first | with_reducible exact ScanP.mk (TG.mk ((T1.out).set_off m) (GN.out)) ((CH.out).set 3 (by omega) (by omega) _) | exact ScanP.mk (TG.mk ((T1.out).set_off m) (GN.out)) ((CH.out).set 3 (by omega) (by omega) _))
theorem scan62 (w : World) (b o : Nat) (s : ByteArray) (n : Nat) (T : TG w b o s) (hn : n ≤ s.size) (hsz : s.size ≤ 1048576) (U : Tabs w) (hb : 2 ≤ b) : Calls Tryf.prog 62 #[ptr b o, .int .i32 n] w (ScanP w b o s) := by
  obtain ⟨off, line, ls, le, hs, he, t, g⟩ := T
  rcases Nat.lt_trichotomy off n with h | h | h
  · exact scan62f w b o s off line ls le hs he n t g hn hsz U hb h
  · subst h
    have c0 := t.c0
    have c3 := t.c3
    have HT := Lib.hid t
    have HG := Lib.hid g
    clear t g U hb
    go_enter Tryf.func62, Tryf.ntmps62
    go_wp2
    go_end0
    exact ⟨rfl, ⟨_, _, _, _, _, _, HT.out, HG.out⟩, Tch.refl b o w⟩
  · exact scan62b w b o s off line ls le hs he n t g hn hsz U hb h
end Go.Proofs.YtfnicbfdfceagaaFmt.lg
