/-
  The messages' lengths are compared, walked.
-/
import Derived.Test.YtfnicbfdfceagaaFmtLb
namespace Go.Proofs.YtfnicbfdfceagaaFmt.lg
open Go.ChangeShapes Go.WideShapes Go.ChangeAt Go.RowKit Go.Deep
set_option linter.unusedVariables false
set_option linter.unusedSimpArgs false
set_option maxRecDepth 100000
set_option maxHeartbeats 4000000
/-- The row's first i integers are those of ls. -/
def Cp (wr : World) (r : Nat) (ls : List Int) (i : Nat) : Prop := ∃ xs, xs.length = ls.length ∧ xs.take i = ls.take i ∧ IR wr r xs
theorem Cp.step {wr : World} {r : Nat} {ls : List Int} {i : Nat} (h : Cp wr r ls i) (hi : i < ls.length) : Cp (wr.setCell ⟨r, i, none⟩ (i64 ls[i])) r ls (i + 1) := by
  obtain ⟨xs, h1, h2, h3⟩ := h
  refine ⟨xs.set i ls[i], by simpa using h1, ?_, h3.set i _⟩
  apply List.ext_getElem?
  intro k
  have h4 := congrArg (fun l => l[k]?) h2
  simp only [List.getElem?_take] at h4 ⊢
  by_cases hk : k < i
  · rw [if_pos hk, if_pos hk] at h4
    rw [if_pos (by omega), if_pos (by omega), List.getElem?_set_ne (by omega), h4]
  · by_cases e : k = i
    · subst e
      rw [if_pos (by omega), if_pos (by omega), List.getElem?_set_self (by omega)]
      simp
    · rw [if_neg (by omega), if_neg (by omega)]
theorem Cp.full {wr : World} {r : Nat} {ls : List Int} {i : Nat} (h : Cp wr r ls i) (hi : i = ls.length) : IR wr r ls := by
  obtain ⟨xs, h1, h2, h3⟩ := h
  rw [hi, ← h1, List.take_length, h1, List.take_length] at h2
  rw [← h2]; exact h3
def Lens (w : World) (g : Option Addr) (M : List Ms) : Prop := ∀ i (h : i < M.length), ∃ rb, g = some ⟨rb, 0, none⟩ ∧ At w rb i M[i] ∧ LocOk w M[i].g M[i].len
theorem Res.lens {w : World} {D : Nat} {g : Option Addr} {M : List Ms} (h : Res w D g M) : Lens w g M := fun i hi => by
  obtain ⟨rb, e, _, R⟩ := h.row (fun e => by rw [e] at hi; simp at hi)
  exact ⟨rb, e, R.c i hi, (h.loc _ (List.getElem_mem _)).1⟩
theorem info3 : (Tryf.prog.info? 3).map (fun i => (i.zero, i.size, i.bytes)) = some (some (Value.int .i64 0), 1, 8) := by kernel_rfl
theorem ir_new (w : World) (n : Nat) : IR (w.alloc (.cells (madeCells #[i64 0] n) 3)) w.heap.size (List.replicate n 0) := by
  refine ⟨fun i hi => ?_, fun q => frozen_of_row _ _ _ _ _ (heap_alloc_new _ _)⟩
  rw [List.length_replicate] at hi
  rw [cell_of_row _ _ _ _ _ _ (heap_alloc_new _ _)]
  simp [madeCells, hi, Nat.mod_one]
def YesP (w : World) (e : Ending) (w' : World) : Prop := e = .returned (.bool true) ∧ Below w.heap.size w w'
/-- Nothing but draws. -/
def RDr (W : World) (n : Nat) (v : Value) (wr : World) : Prop := ∃ i : Nat, v = i64 i ∧ i ≤ n ∧ Touch (fun _ => False) W wr
def RLa (w1 : World) (r : Nat) (ls : List Int) (v : Value) (wr : World) : Prop := ∃ i : Nat, v = i64 i ∧ i ≤ ls.length ∧ Cp wr r ls i ∧ Touch (fun k => k = r) w1 wr
theorem errs13 (w : World) (g : Option Addr) (M : List Ms) (cap rw capw : Nat) (ls : List Int) (hL : Lens w g M) (hr : IR w rw ls) (hrl : rw < w.heap.size) (hp : (M.map Ms.len).Perm ls) (hn : M.length ≤ 1048576) :
    Calls Tryf.prog 13 #[.slice g M.length cap, .slice (some ⟨rw, 0, none⟩) ls.length capw] w (YesP w) := by
  have HL := Lib.hid hL
  have HR := Lib.hid hr
  have HP := Lib.hid hp
  have hlen : M.length = ls.length := by have := hp.length_eq; simpa using this
  obtain ⟨n, hN⟩ : ∃ n, M.length = n := ⟨_, rfl⟩
  have HN := Lib.hid hN
  have HN2 := Lib.hid (hlen.symm.trans hN)
  rw [← hlen, hN]
  rw [hN] at hn
  clear hL hr hp hlen hN
  have hmk := fun w => run_make_row' (P := Tryf.prog) 28 3 (Value.int .i64 0) 8 Tryf.underlying28 info3 rfl .i64 .i64 n (by omega) (by omega) w
  go_enter Tryf.func13, Tryf.ntmps13
  go_upto_region 4 with fail
  have C0 := Lib.hid (show Cp (w.alloc (.cells (madeCells #[i64 0] n) 3)) w.heap.size (M.map Ms.len) 0 from ⟨List.replicate n 0, by simp [HN.out], rfl, ir_new w n⟩)
  have B0 := Lib.hid ((Below.refl w.heap.size w).alloc (Nat.le_refl _) (.cells (madeCells #[i64 0] n) 3))
  have hsz : (w.alloc (.cells (madeCells #[i64 0] n) 3)).heap.size = w.heap.size + 1 := by simp
  change Code.wp _ _ _ _ (w.alloc (.cells (madeCells #[i64 0] n) 3))
  generalize (w.alloc (.cells (madeCells #[i64 0] n) 3)) = W1 at *
  obtain ⟨N, hN⟩ : ∃ N, w.heap.size = N := ⟨_, rfl⟩
  rw [hN] at C0 hsz hrl ⊢
  have EN := Lib.hid hN
  have HZ := Lib.hid hsz
  clear hsz hN
  go_wp2_with fail
  go_loopw [6] (RLa W1 N (M.map Ms.len)) (fun v _ => n - (intOf v).toNat)
  case atStart => exact ⟨0, rfl, Nat.zero_le _, C0.out, Touch.refl _ _⟩
  case round =>
    obtain ⟨i, rfl, hi, hcp, ht⟩ := hrel
    rw [List.length_map, HN.out] at hi
    have HC := Lib.hid hcp
    have HT := Lib.hid ht
    clear hcp ht
    by_cases hlt : i < n
    · obtain ⟨rb, rfl, hat, hloc⟩ := HL.out i (by rw [HN.out]; exact hlt)
      obtain ⟨m, hm⟩ : ∃ m, M[i]'(by rw [HN.out]; exact hlt) = m := ⟨_, rfl⟩
      rw [hm] at hat hloc
      have hrb : rb < N := by rw [← EN.out]; exact block_lt_of_cell hat.c0
      have hgl : m.g < N := by rw [← EN.out]; exact hloc.lt
      have hat2 := (hat.of_block (B0.out.block rb (by rw [EN.out]; exact hrb))).of_block (HT.out.block rb (by rw [HZ.out]; omega) (by omega))
      have hloc2 := (hloc.of_block (B0.out.block m.g (by rw [EN.out]; exact hgl))).of_block (HT.out.block m.g (by rw [HZ.out]; omega) (by omega))
      obtain ⟨p0, p1, p2, p3, p4, p5, p6, p7⟩ := hat2
      obtain ⟨ln, cl, u0, u1, u5, u6, u7⟩ := hloc2
      clear hat hloc p0 p1 p2 p4 p5 p7 u0 u1 u5 u6
      obtain ⟨ol, hol⟩ : ∃ x, wr.cell? ⟨N, i, none⟩ = some (i64 x) := by
        obtain ⟨xs, h1, h2, h3⟩ := HC.out
        exact ⟨_, h3.c i (by rw [h1, List.length_map, HN.out]; exact hlt)⟩
      have hfz : wr.frozen? ⟨N, i, none⟩ = false := by obtain ⟨xs, h1, h2, h3⟩ := HC.out; exact h3.z i
      have HM := Lib.hid hm
      clear hm
      go_wp2_with fail
      go_roundw
      case rel =>
        refine ⟨i + 1, by go_num, by rw [List.length_map, HN.out]; omega, ?_, HT.out.setCell ⟨N, i, none⟩ (fun _ => rfl) _⟩
        have := HC.out.step (i := i) (by rw [List.length_map, HN.out]; exact hlt)
        rw [List.getElem_map, HM.out] at this
        exact this
      case measure => simp [intOf]; omega
    · have hin : i = (M.map Ms.len).length := by rw [List.length_map, HN.out]; omega
      have I1 := Lib.hid (HC.out.full hin)
      have B1 := Lib.hid (show Below N w wr from by
        have := B0.out
        rw [EN.out] at this
        exact this.trans (HT.out.below (by rw [HZ.out]; omega) (fun k hk => by omega)))
      have hz1 : N < wr.heap.size := by have := HT.out.size; rw [HZ.out] at this; omega
      clear HC HT hin HL
      go_upto_region 13 with fail
      clear hi hlt
      have C1 := Lib.hid (show Cp (wr.alloc (.cells (madeCells #[i64 0] n) 3)) wr.heap.size ls 0 from ⟨List.replicate n 0, by simp [HN2.out], rfl, ir_new wr n⟩)
      have I2 := Lib.hid (I1.out.of_block (w' := wr.alloc (.cells (madeCells #[i64 0] n) 3)) (Below.heap_alloc _ _ _ hz1))
      have B2 := Lib.hid (B1.out.alloc (by omega) (.cells (madeCells #[i64 0] n) 3))
      have hsz : (wr.alloc (.cells (madeCells #[i64 0] n) 3)).heap.size = wr.heap.size + 1 := by simp
      change Code.wp _ _ _ _ (wr.alloc (.cells (madeCells #[i64 0] n) 3))
      generalize (wr.alloc (.cells (madeCells #[i64 0] n) 3)) = W2 at *
      generalize wr.heap.size = N2 at *
      clear B1 I1
      have HZ2 := Lib.hid hsz
      clear hsz
      go_wp2_with fail
      go_loopw [8] (RLa W2 N2 ls) (fun v _ => n - (intOf v).toNat)
      case atStart => exact ⟨0, rfl, Nat.zero_le _, C1.out, Touch.refl _ _⟩
      case round =>
        obtain ⟨k, rfl, hk, hcp, ht⟩ := hrel
        rw [HN2.out] at hk
        have HC := Lib.hid hcp
        have HT := Lib.hid ht
        clear hcp ht
        have hz2 := HZ2.out
        by_cases hlt : k < n
        · have hl : k < ls.length := by rw [HN2.out]; exact hlt
          have a0 := ((HR.out.of_block ((B2.out).block rw hrl)).of_block (HT.out.block rw (by omega) (by omega))).c k hl
          obtain ⟨x, hx⟩ : ∃ x, ls[k] = x := ⟨_, rfl⟩
          rw [hx] at a0
          obtain ⟨ol, hol⟩ : ∃ x, wr.cell? ⟨N2, k, none⟩ = some (i64 x) := by
            obtain ⟨xs, h1, h2, h3⟩ := HC.out
            exact ⟨_, h3.c k (by rw [h1]; exact hl)⟩
          have hfz : wr.frozen? ⟨N2, k, none⟩ = false := by obtain ⟨xs, h1, h2, h3⟩ := HC.out; exact h3.z k
          have HX := Lib.hid hx
          clear hx
          go_wp2_with fail
          go_roundw
          case rel =>
            refine ⟨k + 1, by go_num, by rw [HN2.out]; omega, ?_, HT.out.setCell ⟨N2, k, none⟩ (fun _ => rfl) _⟩
            have := HC.out.step hl
            rw [HX.out] at this
            exact this
          case measure => simp [intOf]; omega
        · have hkn : k = ls.length := by rw [HN2.out]; omega
          have J2 := Lib.hid (HC.out.full hkn)
          have J1 := Lib.hid (I2.out.of_block (HT.out.block N (by omega) (by omega)))
          have B3 := Lib.hid (show Below N w wr from B2.out.trans (HT.out.below (by omega) (fun j hj => by omega)))
          have hz3 : N2 < wr.heap.size := by have := HT.out.size; omega
          have hl1 : (M.map Ms.len).length = n := by rw [List.length_map, HN.out]
          have hl2 : ls.length = n := HN2.out
          have S1 := Lib.hid (show ∀ W, IR W N (M.map Ms.len) → Calls Tryf.prog 19 #[sl (some ⟨N, 0, none⟩) n n] W (SortIP W N (M.map Ms.len)) from fun W h => by
            have := sort19 W N n (M.map Ms.len) h (by omega)
            rwa [hl1] at this)
          have S2 := Lib.hid (show ∀ W, IR W N2 ls → Calls Tryf.prog 19 #[sl (some ⟨N2, 0, none⟩) n n] W (SortIP W N2 ls) from fun W h => by
            have := sort19 W N2 n ls h (by omega)
            rwa [hl2] at this)
          clear HC HT hkn hk hl1 hl2 I2 B2 C1
          go_upto_region 18 with (go_at_call 19; refine (S1.out _ J1.out).mono ?_; rintro _ Wa ⟨rfl, ys, ha, hsa⟩; have HA := Lib.hid ha; have SA := Lib.hid hsa; clear ha hsa)
          go_upto_region 19 with (go_at_call 19; refine (S2.out _ (J2.out.of_block (HA.out.2.2.block N2 hz3 (by omega)))).mono ?_; rintro _ Wb ⟨rfl, zs, hb, hsb⟩; have HB := Lib.hid hb; have SB := Lib.hid hsb; clear hb hsb)
          have hyz : ys = zs := SA.out.uniq SB.out (HA.out.1.trans (HP.out.trans HB.out.1.symm))
          subst hyz
          have ya : IR Wb N ys := HA.out.2.1.of_block (HB.out.2.2.block N (by have := HA.out.2.2.size; omega) (by omega))
          have yb : IR Wb N2 ys := HB.out.2.1
          have hys : ys.length = n := by have := HB.out.1.length_eq; rw [HN2.out] at this; exact this
          have BF := Lib.hid (show Below N w Wb from (B3.out.trans (HA.out.2.2.below (by omega) (fun j hj => by omega))).trans (HB.out.2.2.below (by have := HA.out.2.2.size; omega) (fun j hj => by omega)))
          have YA := Lib.hid ya
          have YB := Lib.hid yb
          have HY := Lib.hid hys
          clear ya yb hys
          have hNb : N < Wb.heap.size ∧ N2 < Wb.heap.size := ⟨by have := HA.out.2.2.size; have := HB.out.2.2.size; omega, by have := HA.out.2.2.size; have := HB.out.2.2.size; omega⟩
          go_wp2_with fail
          go_loopw [9] (RDr Wb n) (fun v _ => n - (intOf v).toNat)
          case atStart => exact ⟨0, rfl, Nat.zero_le _, Touch.refl _ _⟩
          case round =>
            obtain ⟨q, rfl, hq, htt⟩ := hrel
            by_cases hlt : q < n
            · have a0 := (YA.out.of_block (htt.block N hNb.1 id)).c q (by rw [HY.out]; exact hlt)
              have b0 := (YB.out.of_block (htt.block N2 hNb.2 id)).c q (by rw [HY.out]; exact hlt)
              obtain ⟨x, hx⟩ : ∃ x, ys[q]'(by rw [HY.out]; exact hlt) = x := ⟨_, rfl⟩
              rw [hx] at a0 b0
              clear hx
              have HTT := Lib.hid htt
              clear htt
              go_wp2_with fail
              go_region
              go_wp2_with fail
              go_roundw
              case rel => exact ⟨q + 1, by go_num, by omega, HTT.out.drew⟩
              case measure => simp [intOf]; omega
            · have HTT := Lib.hid htt
              clear htt
              go_wp2_with fail
              go_ret
              exact ⟨rfl, by rw [EN.out]; exact BF.out.trans (HTT.out.below (by omega) (fun _ h => h.elim))⟩
end Go.Proofs.YtfnicbfdfceagaaFmt.lg
