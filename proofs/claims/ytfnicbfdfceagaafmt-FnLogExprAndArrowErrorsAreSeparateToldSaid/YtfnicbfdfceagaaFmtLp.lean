/-
  The law, walked.
-/
import Derived.Test.YtfnicbfdfceagaaFmtLr
namespace Go.Proofs.YtfnicbfdfceagaaFmt.lg
open Go.ChangeShapes Go.WideShapes Go.ChangeAt Go.RowKit Go.Deep
open Go.Extern.Stop Go.Stop Go.Extern
set_option linter.unusedVariables false
set_option linter.unusedSimpArgs false
set_option maxRecDepth 100000
set_option maxHeartbeats 16000000
def RSt (w : World) (k sz : Nat) (V5 : Nat → Int) (v : Value) (wr : World) : Prop := ∃ i : Nat, v = i64 i ∧ i ≤ k ∧ (∀ j, j < i → 0 ≤ V5 j ∧ V5 j ≤ sz) ∧ Below w.heap.size w wr
theorem Arg.at {w W : World} {g : Option Addr} {n c : Nat} {V : Nat → Int} (h : Arg w g n c V) (hb : Below w.heap.size w W) {i : Nat} (hi : i < n) : ∃ b o, g = some ⟨b, o, none⟩ ∧ W.cell? ⟨b, o + i, none⟩ = some (i32 (V i)) := by
  cases g with
  | none => have := (h.1 rfl).1; omega
  | some x =>
    have hc := (h.2 x rfl).below hb
    obtain ⟨b, o, sp⟩ := x
    obtain rfl : sp = none := hc.1 (by omega)
    exact ⟨b, o, rfl, hc.2 i hi⟩
/-- The rows of ranges and of lengths, filled up to place j. -/
def RPar (W : World) (N1 N2 k : Nat) (V5 V6 : Nat → Int) (v : Value) (wr : World) : Prop :=
  ∃ j : Nat, v = i64 j ∧ j ≤ k ∧ PRow wr N1 k j V5 V6 ∧ Cp wr N2 ((List.range k).map V6) j ∧ Touch (fun q => q = N1 ∨ q = N2) W wr
theorem Rw.lt {w : World} {g : Option Addr} {n : Nat} {V : Nat → Int} (h : Rw w g n V) {b : Nat} (hn : 0 < n) (e : g = some ⟨b, 0, none⟩) : b < w.heap.size := by
  obtain ⟨b', e', c⟩ := h 0 hn
  rw [e] at e'
  cases e'
  exact block_lt_of_cell c
def S26 (w' : World) (b5 b6 N j : Nat) (x y v0 v1 : Value) : Prop := w'.cell? ⟨b5, j, none⟩ = some x ∧ w'.cell? ⟨b6, j, none⟩ = some y ∧ w'.cell? ⟨N, j * 2, none⟩ = some v0 ∧ w'.cell? ⟨N, j * 2 + 1, none⟩ = some v1 ∧ w'.frozen? ⟨N, j * 2, none⟩ = false ∧ w'.frozen? ⟨N, j * 2 + 1, none⟩ = false
theorem sbKeep {W0 W W' : World} {b5 b6 N j : Nat} {x y v0 v1 : Value} (k : Below W.heap.size W W') (h : S26 W0 b5 b6 N j x y v0 v1) (e : W.heap = W0.heap) : S26 W' b5 b6 N j x y v0 v1 := by
  obtain ⟨h1, h2, h3, h4, h5, h6⟩ := h
  have f : ∀ {q r : Nat} {u : Value}, W0.cell? ⟨q, r, none⟩ = some u → W'.cell? ⟨q, r, none⟩ = some u := fun {q r u} hc => by
    have h0 : W.cell? ⟨q, r, none⟩ = some u := by rw [← hc]; exact World.cell?_of_block (a := ⟨q, r, none⟩) (by rw [e])
    exact (k.cell (p := ⟨q, r, none⟩) (block_lt_of_cell h0)).trans h0
  have hN : N < W.heap.size := by rw [e]; exact block_lt_of_cell h3
  have g : ∀ {r : Nat}, W0.frozen? ⟨N, r, none⟩ = false → W'.frozen? ⟨N, r, none⟩ = false := fun {r} hc => by
    rw [← hc]; exact World.frozen?_of_block (a := ⟨N, r, none⟩) (by rw [k.block N hN, e])
  exact ⟨f h1, f h2, f h3, f h4, g h5, g h6⟩
theorem blk_ne {a b i j : Nat} (h : a ≠ b) : (⟨a, i, none⟩ : Addr) ≠ ⟨b, j, none⟩ := fun e => h (by have := congrArg Addr.block e; simpa using this)
def CutF (w : World) (Q : Prop) (v : Value) (wx : World) : Prop := ∃ c : Bool, v = .bool c ∧ (c = false → Q) ∧ Below w.heap.size w wx
theorem law3 (F : Interp) (w : World) (hF : F.answers w.tape) (U : Tabs w) (hD : 2 ≤ w.heap.size) (s : ByteArray) (dS dL aS aL : Int) (g5 g6 : Option Addr) (n5 c5 n6 c6 : Nat) (V5 V6 : Nat → Int)
    (b1 : B32 dS) (b2 : B32 dL) (b3 : B32 aS) (b4 : B32 aL) (h5 : n5 ≤ maxLen) (h6 : n6 ≤ maxLen) (hs : s.size ≤ maxLen) (A5 : Arg w g5 n5 c5 V5) (A6 : Arg w g6 n6 c6 V6) (B5 : ∀ i, i < n5 → B32 (V5 i)) (B6 : ∀ i, i < n6 → B32 (V6 i)) :
    Calls Tryf.prog 3 #[.string s, i32 dS, i32 dL, i32 aS, i32 aL, .slice g5 n5 c5, .slice g6 n6 c6] w (YesP w) := by
  have HU := Lib.hid U
  have HF := Lib.hid hF
  have H5 := Lib.hid A5
  have H6 := Lib.hid A6
  have HB := Lib.hid (And.intro B5 B6)
  have K4 := Lib.hid (bytes4 w s dS dL aS aL g5 g6 n5 c5 n6 c6 h5 h6 hs)
  have K5 := Lib.hid (fun W => span5 W dS dL s.size b1 b2)
  have K5' := Lib.hid (fun W => span5 W aS aL s.size b3 b4)
  have HQ := Lib.hid (And.intro b1 (And.intro b2 (And.intro b3 b4)))
  clear U hF A5 A6 B5 B6 h5 h6 hs b1 b2 b3 b4
  go_enter Tryf.func3, Tryf.ntmps3
  go_upto_region 1 with fail
  go_upto_if 36 with (go_at_call 4; refine K4.out.mono ?_; rintro _ W1 ⟨c, rfl, hc, t1⟩)
  have E1 := Lib.hid (show Below w.heap.size w W1 from t1.below (Nat.le_refl _) (fun _ h => h.elim))
  clear t1 K4
  cases c
  case false =>
    go_wp2_with fail
    go_ret
    exact ⟨rfl, E1.out⟩
  case true =>
    have hq := hc rfl
    clear hc
    have e1 : decide ((1048576 : Int) < (s.size : Int)) = false := by simp; omega
    by_cases k2 : 4096 < n5
    · have e2 : decide ((4096 : Int) < (n5 : Int)) = true := by simp; omega
      go_wp2_with fail
      go_ret
      exact ⟨rfl, E1.out⟩
    have e2 : decide ((4096 : Int) < (n5 : Int)) = false := by simp; omega
    by_cases k3 : 4096 < n6
    · have e3 : decide ((4096 : Int) < (n6 : Int)) = true := by simp; omega
      go_wp2_with fail
      go_ret
      exact ⟨rfl, E1.out⟩
    have e3 : decide ((4096 : Int) < (n6 : Int)) = false := by simp; omega
    by_cases k4 : 1048576 < s.size + 4 * n5 + 4 * n6
    · have e4 : decide ((1048576 : Int) < (s.size : Int) + 4 * (n5 : Int) + 4 * (n6 : Int)) = true := by simp; omega
      go_wp2_with fail
      go_ret
      exact ⟨rfl, E1.out⟩
    have e4 : decide ((1048576 : Int) < (s.size : Int) + 4 * (n5 : Int) + 4 * (n6 : Int)) = false := by simp; omega
    go_upto_region 7 with fail
    go_cut [70] (CutF w (Fits dS dL s.size))
    case first =>
-- BEGIN
      as_aux_lemma =>
      by_cases hn : 0 < dL
      · go_wp2_with (go_at_call 5; refine (K5.out _).mono ?_; rintro _ W2 ⟨c, rfl, hc, t2⟩)
        go_meet
        exact ⟨!c, rfl, fun h => ⟨HQ.out.2.1.1, HQ.out.2.1.2, fun _ => by have h2 := hc (by simpa using h); omega⟩, E1.out.trans (t2.below E1.out.size (fun _ h => h.elim))⟩
      · go_wp2_with fail
        go_meet
        exact ⟨false, rfl, fun _ => ⟨HQ.out.2.1.1, HQ.out.2.1.2, fun h => absurd h (by omega)⟩, E1.out⟩
-- END
    case rest =>
    as_aux_lemma =>
    obtain ⟨c, rfl, hc, hb⟩ := hcut
    have E2 := Lib.hid hb
    clear hb
    rename World => W2
    cases c
    case true =>
      go_wp2_with fail
      go_ret
      exact ⟨rfl, E2.out⟩
    case false =>
    have F1 := Lib.hid (hc rfl)
    clear hc
    go_upto_region 9 with fail
    go_cut [80] (CutF w (Fits aS aL s.size))
    case first =>
-- BEGIN
      as_aux_lemma =>
      by_cases hn : 0 < aL
      · go_wp2_with (go_at_call 5; refine (K5'.out _).mono ?_; rintro _ W3 ⟨c, rfl, hc, t2⟩)
        go_meet
        exact ⟨!c, rfl, fun h => ⟨HQ.out.2.2.2.1, HQ.out.2.2.2.2, fun _ => by have h2 := hc (by simpa using h); omega⟩, E2.out.trans (t2.below E2.out.size (fun _ h => h.elim))⟩
      · go_wp2_with fail
        go_meet
        exact ⟨false, rfl, fun _ => ⟨HQ.out.2.2.2.1, HQ.out.2.2.2.2, fun h => absurd h (by omega)⟩, E2.out⟩
-- END
    case rest =>
    as_aux_lemma =>
    obtain ⟨c, rfl, hc, hb⟩ := hcut
    have E2 := Lib.hid hb
    clear hb
    rename World => W3
    cases c
    case true =>
      go_wp2_with fail
      go_ret
      exact ⟨rfl, E2.out⟩
    case false =>
    have F2 := Lib.hid (hc rfl)
    clear hc
    have hq4 : s.size + 4 * n5 + 4 * n6 ≤ 1048576 := by omega
    clear e1 e2 e3 e4 k4
    go_upto_if 86 with fail
    go_cut [15] (fun v wx => v = i64 (min n5 n6 : Nat) ∧ W3 = wx)
    case first =>
-- BEGIN
      as_aux_lemma =>
      by_cases hlt : n6 < n5
      · have hmin : min n5 n6 = n6 := by omega
        have HM := Lib.hid hmin
        clear hmin
        go_wp2_with fail
        go_meet
        exact ⟨by rw [HM.out], rfl⟩
      · have hmin : min n5 n6 = n5 := by omega
        have HM := Lib.hid hmin
        clear hmin
        go_wp2_with fail
        go_meet
        exact ⟨by rw [HM.out], rfl⟩
-- END
    case rest =>
    as_aux_lemma =>
    obtain ⟨rfl, rfl⟩ := hcut
    obtain ⟨k, hk⟩ : ∃ k, min n5 n6 = k := ⟨_, rfl⟩
    rw [hk]
    have hk5 : k ≤ n5 := by omega
    have hk6 : k ≤ n6 := by omega
    clear hk
    as_aux_lemma =>
    go_wp2_with fail
    go_loopw [16] (RSt w k s.size V5) (fun v _ => k - (intOf v).toNat)
    case atStart => exact ⟨0, rfl, Nat.zero_le _, fun j hj => absurd hj (Nat.not_lt_zero _), E2.out⟩
    case round =>
    as_aux_lemma =>
    obtain ⟨i, rfl, hi, hst, hb⟩ := hrel
    have E3 := Lib.hid hb
    have ST := Lib.hid hst
    clear hb hst E2
    by_cases hlt : i < k
-- BEGIN
    · as_aux_lemma =>
      obtain ⟨b, o, rfl, hcell⟩ := H5.out.at E3.out (show i < n5 by omega)
      have K6 := Lib.hid (fun W => start6 W (V5 i) s.size (HB.out.1 i (by omega)))
      go_upto_if 101 with (go_at_call 6; refine (K6.out _).mono ?_; rintro _ W4 ⟨c, rfl, hc, t4⟩)
      have E4 := Lib.hid (E3.out.trans (t4.below E3.out.size (fun _ h => h.elim)))
      clear t4
      cases c
      case false =>
        go_wp2_with fail
        go_ret
        exact ⟨rfl, E4.out⟩
      case true =>
        have hc1 := Lib.hid (hc rfl)
        clear hc
        go_wp2_with fail
        go_roundw
        case rel => exact ⟨i + 1, by go_num, by omega, fun j hj => by
          by_cases e : j = i
          · subst e; exact hc1.out
          · exact ST.out j (by omega), E4.out⟩
        case measure => simp [intOf]; omega
-- END
    · obtain rfl : i = k := by omega
      clear hlt hi
      have C5 := Lib.hid (show ∀ W, Below w.heap.size w W → Calls Tryf.prog 7 #[.slice g5 n5 c5] W (CloneP W n5 V5) from fun W h => cloneAny W g5 n5 c5 V5 ⟨H5.out.1, fun x hx => (H5.out.2 x hx).below h⟩ (by omega))
      have C6 := Lib.hid (show ∀ W, Below w.heap.size w W → Calls Tryf.prog 7 #[.slice g6 n6 c6] W (CloneP W n6 V6) from fun W h => cloneAny W g6 n6 c6 V6 ⟨H6.out.1, fun x hx => (H6.out.2 x hx).below h⟩ (by omega))
      go_upto_region 20 with (go_at_call 7; refine (C5.out _ E3.out).mono ?_; rintro _ W4 ⟨g5', c5', rfl, r5, hb⟩; have R5 := Lib.hid r5; have E4 := Lib.hid (E3.out.trans (hb.mono E3.out.size)); clear r5 hb)
      go_upto_region 21 with (go_at_call 7; refine (C6.out _ E4.out).mono ?_; rintro _ W5 ⟨g6', c6', rfl, r6, hb⟩; have R6 := Lib.hid r6; have R5' := Lib.hid (R5.out.below hb); have E5 := Lib.hid (E4.out.trans (hb.mono E4.out.size)); clear r6 hb R5)
      have hmk1 := fun w => make27 w i (by omega)
      have hmk2 := fun w => run_make_row' (P := Tryf.prog) 28 3 (Value.int .i64 0) 8 Tryf.underlying28 info3 rfl .i64 .i64 i (by omega) (by omega) w
      go_upto_region 23 with fail
      have L5 : ∀ b, 0 < n5 → g5' = some ⟨b, 0, none⟩ → b < W5.heap.size := fun b h e => R5'.out.lt h e
      have L6 : ∀ b, 0 < n6 → g6' = some ⟨b, 0, none⟩ → b < W5.heap.size := fun b h e => R6.out.lt h e
      have P0 := PRow.made W5 i V5 V6
      have hs5 := E5.out.size
      have E6 := E5.out.alloc E5.out.size (.cells (madeCells #[i32 0, i32 0] (i * 2)) 32)
      have R5a := R5'.out.below ((Below.refl W5.heap.size W5).alloc (Nat.le_refl _) (.cells (madeCells #[i32 0, i32 0] (i * 2)) 32))
      have R6a := R6.out.below ((Below.refl W5.heap.size W5).alloc (Nat.le_refl _) (.cells (madeCells #[i32 0, i32 0] (i * 2)) 32))
      have z6 : (W5.alloc (.cells (madeCells #[i32 0, i32 0] (i * 2)) 32)).heap.size = W5.heap.size + 1 := by simp
      change Code.wp _ _ _ _ ((W5.alloc (.cells (madeCells #[i32 0, i32 0] (i * 2)) 32)).alloc (.cells (madeCells #[i64 0] i) 3))
      clear R5' R6 E5
      generalize (W5.alloc (.cells (madeCells #[i32 0, i32 0] (i * 2)) 32)) = W6 at *
      have N6 := Lib.hid (show IR (W6.alloc (.cells (madeCells #[i64 0] i) 3)) W6.heap.size (List.replicate i 0) from ir_new W6 i)
      have Bl6 := (Below.refl W6.heap.size W6).alloc (Nat.le_refl _) (.cells (madeCells #[i64 0] i) 3)
      have P1 := Lib.hid (P0.of_block (Bl6.block W5.heap.size (by omega)))
      have R5 := Lib.hid (R5a.below Bl6)
      have R6 := Lib.hid (R6a.below Bl6)
      have E7 := Lib.hid (E6.trans (Bl6.mono E6.size))
      have z7 : (W6.alloc (.cells (madeCells #[i64 0] i) 3)).heap.size = W6.heap.size + 1 := by simp
      clear P0 R5a R6a Bl6 E6
      generalize (W6.alloc (.cells (madeCells #[i64 0] i) 3)) = W7 at *
      rw [z6] at N6 z7
      clear z6
      obtain ⟨N, hN⟩ : ∃ N, W5.heap.size = N := ⟨_, rfl⟩
      rw [hN] at N6 z7 hs5 P1 L5 L6 ⊢
      clear hN
      have L5 := Lib.hid L5
      have L6 := Lib.hid L6
      have Z7 := Lib.hid z7
      clear z7
      have hlen : ((List.range i).map V6).length = i := by simp
      have C0 := Lib.hid (show Cp W7 (N + 1) ((List.range i).map V6) 0 from ⟨List.replicate i 0, by simp, rfl, N6.out⟩)
      have HLEN := Lib.hid hlen
      clear hlen N6
      clear hmk1 hmk2
      as_aux_lemma =>
      go_wp2_with fail
      go_loopw [19] (RPar W7 N (N + 1) i V5 V6) (fun v _ => i - (intOf v).toNat)
      case atStart => exact ⟨0, rfl, Nat.zero_le _, P1.out, C0.out, Touch.refl _ _⟩
      case round =>
      as_aux_lemma =>
      obtain ⟨j, rfl, hj, hp, hcp, ht⟩ := hrel
      have HP := Lib.hid hp
      have HC := Lib.hid hcp
      have HT := Lib.hid ht
      clear hp hcp ht
      by_cases hlt : j < i
-- BEGIN
      · as_aux_lemma =>
        obtain ⟨b5, rfl, d5⟩ := R5.out j (by omega)
        obtain ⟨b6, rfl, d6⟩ := R6.out j (by omega)
        have hb5 : b5 < N := L5.out b5 (by omega) rfl
        have hb6 : b6 < N := L6.out b6 (by omega) rfl
        have z7 := Z7.out
        have c5 : wr.cell? ⟨b5, j, none⟩ = some (i32 (V5 j)) := (World.cell?_of_block (a := ⟨b5, j, none⟩) (HT.out.block b5 (by omega) (by omega))).trans d5
        have c6 : wr.cell? ⟨b6, j, none⟩ = some (i32 (V6 j)) := (World.cell?_of_block (a := ⟨b6, j, none⟩) (HT.out.block b6 (by omega) (by omega))).trans d6
        obtain ⟨v0, e0⟩ := HP.out.e (j * 2) (by omega)
        obtain ⟨v1, e1⟩ := HP.out.e (j * 2 + 1) (by omega)
        have y0 := HP.out.z (j * 2)
        have y1 := HP.out.z (j * 2 + 1)
        have hbW : N + 1 < wr.heap.size := by have := HT.out.size; omega
        have BV := Lib.hid (HB.out.2 j (by omega))
        clear d5 d6 z7
        go_upto_region 26 with fail
        have SA := Lib.hid (show S26 wr b5 b6 N j (i32 (V5 j)) (i32 (V6 j)) v0 v1 from (show wr.cell? ⟨b5, j, none⟩ = some (i32 (V5 j)) ∧ wr.cell? ⟨b6, j, none⟩ = some (i32 (V6 j)) ∧ wr.cell? ⟨N, j * 2, none⟩ = some v0 ∧ wr.cell? ⟨N, j * 2 + 1, none⟩ = some v1 ∧ wr.frozen? ⟨N, j * 2, none⟩ = false ∧ wr.frozen? ⟨N, j * 2 + 1, none⟩ = false from ⟨c5, c6, e0, e1, y0, y1⟩))
        have HWB := Lib.hid hbW
        clear hbW
        have b5n : b5 ≠ N := by omega
        have b6n : b6 ≠ N := by omega
        have q0 : (0 : Int) ≤ (j : Int) := by omega
        have q5 : (j : Int) < (n5 : Int) := by omega
        have q6 : (j : Int) < (n6 : Int) := by omega
        have qi : (j : Int) < (i : Int) := by omega
        have p5 : j < n5 := by omega
        have p6 : j < n6 := by omega
        go_cut [115, 116, 117, 118, 119, 120, 121, 122, 123, 124, 125, 126] (fun _ _ _ _ _ _ _ _ _ _ _ _ wx => ∃ Wc, Below wr.heap.size wr Wc ∧ wx = ((Wc.setCell ⟨N, j * 2, none⟩ (i32 (V5 j))).setCell ⟨N, j * 2 + 1, none⟩ (i32 (V6 j))))
        case first =>
          go_region_held3 (fun w' => w'.cell? ⟨b5, j, none⟩ = some (i32 (V5 j)) ∧ w'.cell? ⟨b6, j, none⟩ = some (i32 (V6 j))) (first | (exact ⟨SA.out.1, SA.out.2.1⟩) | (exact ⟨SB.out.1, SB.out.2.1⟩) | (exact ⟨(World.cell?_setCell_other _ ⟨N, j * 2 + 1, none⟩ ⟨b5, j, none⟩ _ (blk_ne b5n.symm)).trans ((World.cell?_setCell_other _ ⟨N, j * 2, none⟩ ⟨b5, j, none⟩ _ (blk_ne b5n.symm)).trans SB.out.1), (World.cell?_setCell_other _ ⟨N, j * 2 + 1, none⟩ ⟨b6, j, none⟩ _ (blk_ne b6n.symm)).trans ((World.cell?_setCell_other _ ⟨N, j * 2, none⟩ ⟨b6, j, none⟩ _ (blk_ne b6n.symm)).trans SB.out.2.1)⟩) | (go_keep)) ((go_at_call 8; refine (range8 _ (V5 j) (V6 j)).mono ?_; rintro _ Wc ⟨rfl, hbc⟩; have SB := Lib.hid (sbKeep (W0 := wr) hbc SA.out rfl); obtain ⟨-, -, f0, f1, f2, f3⟩ := SB.out; have BC := Lib.hid (show Below wr.heap.size wr Wc from ⟨hbc.os, hbc.tape, hbc.output, hbc.size, hbc.block⟩); clear hbc))
          all_goals
            go_wp2_with fail
            go_meet
            exact ⟨Wc, BC.out, rfl⟩
        case rest =>
          as_aux_lemma =>
          obtain ⟨Wc, hbc, rfl⟩ := hcut
          have hbW := HWB.out
          have PC := HP.out.of_block (w' := Wc) (hbc.block N (by omega))
          have P2 := Lib.hid (PC.step hlt)
          have far : ∀ q, q ≠ N → ((Wc.setCell ⟨N, j * 2, none⟩ (i32 (V5 j))).setCell ⟨N, j * 2 + 1, none⟩ (i32 (V6 j))).heap[q]? = Wc.heap[q]? := fun q hq => (Below.heap_setCell _ ⟨N, j * 2 + 1, none⟩ _ _ hq).trans (Below.heap_setCell _ ⟨N, j * 2, none⟩ _ _ hq)
          have C2 := Lib.hid (show Cp ((Wc.setCell ⟨N, j * 2, none⟩ (i32 (V5 j))).setCell ⟨N, j * 2 + 1, none⟩ (i32 (V6 j))) (N + 1) ((List.range i).map V6) j from by
            obtain ⟨xs, h1, h2, h3⟩ := HC.out
            exact ⟨xs, h1, h2, (h3.of_block (w' := Wc) (hbc.block (N + 1) (by omega))).of_block (far (N + 1) (by omega))⟩)
          have T2 := Lib.hid (show Touch (fun q => q = N ∨ q = N + 1) W7 ((Wc.setCell ⟨N, j * 2, none⟩ (i32 (V5 j))).setCell ⟨N, j * 2 + 1, none⟩ (i32 (V6 j))) from ((HT.out.then hbc).setCell ⟨N, j * 2, none⟩ (fun _ => Or.inl rfl) _).setCell ⟨N, j * 2 + 1, none⟩ (fun _ => Or.inl rfl) _)
          have c6' : ((Wc.setCell ⟨N, j * 2, none⟩ (i32 (V5 j))).setCell ⟨N, j * 2 + 1, none⟩ (i32 (V6 j))).cell? ⟨b6, j, none⟩ = some (i32 (V6 j)) := (World.cell?_of_block (a := ⟨b6, j, none⟩) (far b6 b6n)).trans ((hbc.cell (p := ⟨b6, j, none⟩) (block_lt_of_cell c6)).trans c6)
          clear c5 c6 e0 e1 y0 y1 SA HP HC HT PC far hbc HWB hbW
          generalize ((Wc.setCell ⟨N, j * 2, none⟩ (i32 (V5 j))).setCell ⟨N, j * 2 + 1, none⟩ (i32 (V6 j))) = Y at *
          obtain ⟨ol, hol⟩ : ∃ x, Y.cell? ⟨N + 1, j, none⟩ = some (i64 x) := by
            obtain ⟨xs, h1, h2, h3⟩ := C2.out
            exact ⟨_, h3.c j (by rw [h1, HLEN.out]; exact hlt)⟩
          have hfz : Y.frozen? ⟨N + 1, j, none⟩ = false := by obtain ⟨xs, h1, h2, h3⟩ := C2.out; exact h3.z j
          obtain ⟨bl, bu⟩ := BV.out
          go_wp2_with fail
          go_roundw
          case rel =>
            refine ⟨j + 1, by go_num, by omega, P2.out.of_block (Below.heap_setCell _ ⟨N + 1, j, none⟩ _ _ (by show N ≠ N + 1; omega)), ?_, T2.out.setCell ⟨N + 1, j, none⟩ (fun _ => Or.inr rfl) _⟩
            have := C2.out.step (i := j) (by rw [HLEN.out]; exact hlt)
            simp only [List.getElem_map, List.getElem_range] at this
            exact this
          case measure => simp [intOf]; omega
-- END
      · obtain rfl : j = i := by omega
        have I8 := Lib.hid (HC.out.full (by rw [HLEN.out]))
        have P8 := HP
        have E8 := Lib.hid (show Below w.heap.size w wr from E7.out.trans (HT.out.below (by have := Z7.out; omega) (fun q hq => by omega)))
        have S8 := Lib.hid (show N + 1 < wr.heap.size from by have := HT.out.size; have := Z7.out; omega)
        clear HC HP HT C0 P1 E7 E4 E3 R5 R6 L5 L6 hlt hj K5 K5' C5 C6
        have hmk : ∀ w, (Instr.makeSlice 28 (.int .i64 0) (.int .i64 2)).run Tryf.prog w = .ok (.slice (some ⟨w.heap.size, 0, none⟩) 0 2) (w.alloc (.cells (madeCells #[i64 0] 2) 3)) := fun w => make0 w 2 (by omega)
        go_upto_region 29 with fail
        have O0 := Lib.hid (Ow.made wr 2 (by omega))
        clear hmk
        generalize (wr.alloc (.cells (madeCells #[i64 0] 2) 3)) = W8 at *
        go_upto_if 137 with fail
        go_cut [20] (fun v wx => Ow wr.heap.size wr wx v (one dL))
        case first =>
-- BEGIN
          as_aux_lemma =>
          by_cases hd : 0 < dL
          · have h1 : one dL = [] ++ [dL] := by unfold one; rw [if_pos hd]; rfl
            have H1 := Lib.hid h1
            clear h1
            obtain ⟨bl, bu⟩ := HQ.out.2.1
            go_wp2_with (refine app1 (.tmp 138) (.tmp 141) rfl rfl _ _ _ _ _ dL _ rfl O0.out rfl (by simp) ?_; intro v' w' ho; have HO := Lib.hid ho; clear ho)
            go_meet
            rw [H1.out]
            exact HO.out
          · go_wp2_with fail
            go_meet
            have h1 : one dL = [] := by unfold one; rw [if_neg (by omega)]
            rw [h1]
            exact O0.out
-- END
        case rest =>
        as_aux_lemma =>
        have O1 := Lib.hid hcut
        clear hcut O0
        go_upto_if 144 with fail
        go_cut [20] (fun v wx => Ow wr.heap.size wr wx v (one dL ++ one aL))
        case first =>
-- BEGIN
          as_aux_lemma =>
          by_cases hd : 0 < aL
          · have h1 : one aL = [aL] := by unfold one; rw [if_pos hd]
            have H1 := Lib.hid h1
            clear h1
            obtain ⟨bl, bu⟩ := HQ.out.2.2.2
            go_wp2_with (refine app1 (.tmp 145) (.tmp 148) rfl rfl _ _ _ _ _ aL _ rfl O1.out rfl (by unfold one; split <;> simp) ?_; intro v' w' ho; have HO := Lib.hid ho; clear ho)
            go_meet
            rw [H1.out]
            exact HO.out
          · go_wp2_with fail
            go_meet
            have h1 : one aL = [] := by unfold one; rw [if_neg (by omega)]
            rw [h1, List.append_nil]
            exact O1.out
-- END
        case rest =>
        as_aux_lemma =>
        rename World => W9
        obtain ⟨es, hes⟩ : ∃ es, one dL ++ one aL = es := ⟨_, rfl⟩
        have hel : es.length ≤ 2 := by rw [← hes]; unfold one; split <;> split <;> simp
        rw [hes] at hcut
        obtain ⟨g20, c20, rfl, ir20, ge20, lt20⟩ := hcut.ir
        have I20 := Lib.hid ir20
        have B9 := hcut.bel
        have P9 := Lib.hid (P8.out.of_block (w' := W9) (B9.block N (by have := S8.out; omega)))
        have I9 := Lib.hid (I8.out.of_block (w' := W9) (B9.block (N + 1) (by have := S8.out; omega)))
        have E9 := Lib.hid (E8.out.trans (B9.mono E8.out.size))
        have S9 := Lib.hid (show N + 1 < W9.heap.size from by have := S8.out; have := B9.size; omega)
        have HES := Lib.hid hes
        clear hcut O1 ir20 B9 P8 I8 E8 S8 hes ge20
        have hmk : ∀ w, (Instr.makeSlice 28 (.int .i64 0) (.int .i64 ((j : Int) + 2))).run Tryf.prog w = .ok (.slice (some ⟨w.heap.size, 0, none⟩) 0 (j + 2)) (w.alloc (.cells (madeCells #[i64 0] (j + 2)) 3)) := fun w => by
          have := make0 w (j + 2) (by omega)
          rw [Int.natCast_add] at this
          exact this
        have K2 := Lib.hid k2
        clear L5 L6 hq k2 k3
        go_upto_region 34 with fail
        have O3 := Lib.hid (Ow.made W9 (j + 2) (by omega))
        clear hmk
        generalize (W9.alloc (.cells (madeCells #[i64 0] (j + 2)) 3)) = Wa at *
        have HEL := Lib.hid hel
        as_aux_lemma =>
        go_wp2_with fail
        go_loopw [21, 22] (RGr W9.heap.size W9 [] es) (fun _ v _ => es.length - (intOf v).toNat)
        case atStart => exact ⟨0, rfl, Nat.zero_le _, O3.out⟩
        case round =>
        as_aux_lemma =>
        obtain ⟨q, rfl, hq2, how⟩ := hrel
        have HO := Lib.hid how
        clear how
        by_cases hlt : q < es.length
-- BEGIN
        · as_aux_lemma =>
          have hc := (I20.out.of_block (HO.out.bel.block g20 lt20)).c q hlt
          obtain ⟨e, he⟩ : ∃ e, es[q] = e := ⟨_, rfl⟩
          rw [he] at hc
          have HE := Lib.hid he
          clear he
          go_wp2_with (refine app1 (.tmp 159) (.tmp 164) rfl rfl _ _ _ _ _ e _ rfl HO.out rfl (by simp; omega) ?_; intro v' w' ho; have HO2 := Lib.hid ho; clear ho)
          go_roundw
          case rel =>
            refine ⟨q + 1, by go_num, by omega, ?_⟩
            rw [take_snoc [] es q hlt, HE.out]
            exact HO2.out
          case measure => simp [intOf]; omega
-- END
        · obtain rfl : q = es.length := by omega
          have O4 := HO.out
          rw [List.take_length, List.nil_append] at O4
          have O5 := Lib.hid O4
          clear HO O4 hlt hq2 O3
          have P10 := Lib.hid (P9.out.of_block (w' := wr) (O5.out.bel.block N (by have := S9.out; omega)))
          have I10 := Lib.hid (I9.out.of_block (w' := wr) (O5.out.bel.block (N + 1) S9.out))
          clear P9 I9
          as_aux_lemma =>
          go_wp2_with fail
          go_loopw [21, 23] (RGr W9.heap.size W9 es ((List.range j).map V6)) (fun _ v _ => j - (intOf v).toNat)
          case atStart => exact ⟨0, rfl, Nat.zero_le _, by rw [List.take_zero, List.append_nil]; exact O5.out⟩
          case round =>
          as_aux_lemma =>
          obtain ⟨q, rfl, hq2, how⟩ := hrel
          have HO := Lib.hid how
          clear how
          rw [HLEN.out] at hq2
          by_cases hlt : q < j
-- BEGIN
          · as_aux_lemma =>
            have hb2 := HO.out.bel.block (N + 1) S9.out
            have hb3 := O5.out.bel.block (N + 1) S9.out
            have hc := (I10.out.of_block (hb2.trans hb3.symm)).c q (by rw [HLEN.out]; exact hlt)
            obtain ⟨e, he⟩ : ∃ e, ((List.range j).map V6)[q]'(by rw [HLEN.out]; exact hlt) = e := ⟨_, rfl⟩
            rw [he] at hc
            have HE := Lib.hid he
            clear he hb2 hb3
            go_wp2_with (refine app1 (.tmp 171) (.tmp 176) rfl rfl _ _ _ _ _ e _ rfl HO.out rfl (by have := HEL.out; simp; omega) ?_; intro v' w' ho; have HO2 := Lib.hid ho; clear ho)
            go_roundw
            case rel =>
              refine ⟨q + 1, by go_num, by rw [HLEN.out]; omega, ?_⟩
              rw [take_snoc es _ q (by rw [HLEN.out]; exact hlt), HE.out]
              exact HO2.out
            case measure => simp [intOf]; omega
-- END
          · obtain rfl : q = j := by omega
            have O6 := HO.out
            rw [List.take_of_length_le (Nat.le_of_eq HLEN.out)] at O6
            obtain ⟨g21, c21, rfl, ir21, ge21, lt21⟩ := O6.ir
            have hz := S9.out
            have ob := O6.bel
            have oz := ob.size
            have P11 := Lib.hid (P10.out.of_block (w' := wr) ((ob.block N (by omega)).trans (O5.out.bel.block N (by omega)).symm))
            have I11 := Lib.hid (I10.out.of_block (w' := wr) ((ob.block (N + 1) hz).trans (O5.out.bel.block (N + 1) hz).symm))
            have J20 := Lib.hid (I20.out.of_block (w' := wr) (ob.block g20 lt20))
            have J21 := Lib.hid ir21
            have EW := Lib.hid (E9.out.trans (ob.mono E9.out.size))
            have LT := Lib.hid (show N + 1 < wr.heap.size ∧ g20 < wr.heap.size ∧ g21 < wr.heap.size from ⟨by omega, by omega, lt21⟩)
            have HB6 := Lib.hid (show ∀ j, j < q → B32 (V6 j) from fun j hj => HB.out.2 j (by omega))
            have HSZ := Lib.hid (show s.size ≤ 1048576 ∧ q ≤ 4096 from ⟨by omega, by have := K2.out; omega⟩)
            have EX := Lib.hid (Below.refl wr.heap.size wr)
            clear HO O6 O5 P10 I10 ir21 ge21 ob oz hz hlt hq2 hk5 hk6 hq4 I20 lt20 E9 S9 hel
            as_aux_lemma =>
            go_wp2_with fail
            go_upto_region 43 with (first | (go_at_call 8; refine (range8 _ _ _).mono ?_; rintro _ Wq ⟨rfl, bq⟩; have EX := Lib.hid (EX.out.trans (bq.mono EX.out.size)); clear bq) | (go_at_call 9; refine (errs9 _ _ _ _ _ _ _ _).mono ?_; rintro _ Wp ⟨p, rfl, hp, hde, h6, bp⟩; have DE := Lib.hid (And.intro hde h6); have EX := Lib.hid (EX.out.trans (bp.mono EX.out.size)); clear hp hde h6 bp))
            have bx := EX.out
            have bw := EW.out.trans (bx.mono EW.out.size)
            have lt := LT.out
            have zx := bx.size
            have SX := Lib.hid (show Sx F Wp s p N q (N + 1) g20 g21 dS dL aS aL V5 V6 es from
              ⟨by rw [bw.tape]; exact HF.out, Below.tabs bw HU.out, DE.out.1, DE.out.2, P11.out.of_block (bx.block N (by omega)), I11.out.of_block (bx.block (N + 1) (by omega)), J20.out.of_block (bx.block g20 (by omega)), J21.out.of_block (bx.block g21 (by omega)),
                ⟨block_lt_of_cell DE.out.1.c0, by omega, by omega, by omega, by omega, by have := bw.size; omega⟩, HSZ.out, HES.out.symm, F1.out, F2.out, ST.out, HB6.out⟩)
            have BW := Lib.hid bw
            have NL := Lib.hid (show (es ++ (List.range q).map V6).length = es.length + q from by rw [List.length_append, HLEN.out])
            have QL := Lib.hid (show es.length + q ≤ 100000 from by have := HSZ.out.2; have := HEL.out; omega)
            clear bx bw lt zx EX EW LT P11 I11 J20 J21 DE HSZ HES F1 F2 ST HB6 HF HU HB HQ H5 H6 E1 E2 Z7 K2 hs5 lt21
            as_aux_lemma =>
            go_upto_region 44 with (go_at_call 10; refine (c10 _ s).mono ?_; rintro _ Wb ⟨b1, rfl, hl⟩; have L1 := Lib.hid hl; clear hl)
            go_upto_region 45 with (go_at_call 11; refine (c11 SX.out L1.out (Nat.zero_le _)).mono ?_; rintro _ Wc ⟨rfl, hl⟩; rw [List.nil_append] at hl; have L2 := Lib.hid hl; clear hl)
            go_upto_region 46 with (go_at_call 12; refine (c12 SX.out L2.out (by have := HEL.out; omega)).mono ?_; rintro _ Wd ⟨rfl, hl⟩; have L3 := Lib.hid hl; clear hl)
            go_upto_region 48 with (first | (go_at_call 14; refine (c14 L3.out (by rw [NL.out]; exact QL.out)).mono ?_; rintro _ We ⟨g1, k1, rfl, hm⟩; rw [NL.out]; have M1 := Lib.hid hm; clear hm) | (go_at_call 13; refine (c13 M1.out SX.out.r3 SX.out.lt.2.2.2.2.1 (by rw [NL.out]; exact QL.out) NL.out NL.out).mono ?_; rintro _ Wf ⟨rfl, hb⟩; have S2 := Lib.hid (SX.out.below hb); have B2 := Lib.hid (BW.out.trans (hb.mono BW.out.size)); clear hb))
            clear SX BW L1 L2 L3 M1
            have hql : ((List.range q).map V6).length ≤ 100000 := by rw [HLEN.out]; have := QL.out; omega
            have QM := Lib.hid hql
            clear hql
            as_aux_lemma =>
            go_upto_region 49 with (go_at_call 10; refine (c10 _ s).mono ?_; rintro _ Wb ⟨b2, rfl, hl⟩; have L1 := Lib.hid hl; clear hl)
            go_upto_region 50 with (go_at_call 12; refine (c12 S2.out L1.out (Nat.zero_le _)).mono ?_; rintro _ Wd ⟨rfl, hl⟩; rw [List.nil_append] at hl; have L3 := Lib.hid hl; clear hl)
            go_upto_region 52 with (first | (go_at_call 14; refine (c14 L3.out QM.out).mono ?_; rintro _ We ⟨g2, k2, rfl, hm⟩; rw [HLEN.out]; have M1 := Lib.hid hm; clear hm) | (go_at_call 13; refine (c13 M1.out S2.out.r1 S2.out.lt.2.2.1 QM.out HLEN.out HLEN.out).mono ?_; rintro _ Wg ⟨rfl, hb⟩; have S3 := Lib.hid (S2.out.below hb); have B3 := Lib.hid (B2.out.trans (hb.mono B2.out.size)); clear hb))
            clear S2 B2 L1 L3 M1
            as_aux_lemma =>
            go_upto_region 53 with (go_at_call 10; refine (c10 _ s).mono ?_; rintro _ Wb ⟨b3, rfl, hl⟩; have L1 := Lib.hid hl; clear hl)
            go_upto_region 54 with (go_at_call 11; refine (c11 S3.out L1.out (Nat.zero_le _)).mono ?_; rintro _ Wd ⟨rfl, hl⟩; rw [List.nil_append] at hl; have L3 := Lib.hid hl; clear hl)
            go_wp2_with (first | (go_at_call 14; refine (c14 L3.out (by have := HEL.out; omega)).mono ?_; rintro _ We ⟨g3, k3, rfl, hm⟩; have M1 := Lib.hid hm; clear hm) | (go_at_call 13; refine (c13 M1.out S3.out.r2 S3.out.lt.2.2.2.1 (by have := HEL.out; omega) rfl rfl).mono ?_; rintro _ Wg ⟨rfl, hb⟩; have B4 := Lib.hid (B3.out.trans (hb.mono B3.out.size)); clear hb))
            go_ret
            exact ⟨rfl, B4.out⟩
end Go.Proofs.YtfnicbfdfceagaaFmt.lg
