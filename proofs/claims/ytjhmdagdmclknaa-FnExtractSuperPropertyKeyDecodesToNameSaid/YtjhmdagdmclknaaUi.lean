/-
  zzUTF16ToUTF8 walked.
-/
import Derived.Test.YtjhmdagdmclknaaUh
namespace Go.Proofs.Ytjhmdagdmclknaa.ut
open Go.ChangeShapes Go.WideShapes Go.ChangeAt Go.RowKit Go.Deep Go.Proofs.Ytjhmdagdmclknaa.u8
set_option linter.unusedVariables false
set_option linter.unusedSimpArgs false

theorem info8 : (Try.prog.info? 5).map (fun i => (i.zero, i.size, i.bytes)) = some (some (.int .u8 0), 1, 1) := by kernel_rfl
theorem make8 (w : World) (c : Nat) (hc : c ≤ 1048576) : (Instr.makeSlice 38 (.int .i64 0) (.int .i64 c)).run Try.prog w = .ok (.slice (some ⟨w.heap.size, 0, none⟩) 0 c) (w.alloc (.cells (madeCells #[.int .u8 0] c) 5)) := by
  obtain ⟨i, hi, hz⟩ := Option.map_eq_some_iff.1 info8
  simp only [Prod.mk.injEq] at hz
  obtain ⟨h1, h2, h3⟩ := hz
  have hr := run_make (P := Try.prog) w 38 5 i _ Try.underlying38 hi h1 .i64 .i64 0 c (by omega) (by omega) (by rw [h3]; omega) (by omega)
  simp only [Int.toNat_natCast, h2, Nat.mul_one] at hr
  exact hr
theorem made8_size (c : Nat) : (madeCells #[.int .u8 0] c).size = c * 1 := by simp [size_madeCells]
theorem news8 (W : World) (x : Int) : ∀ j u, ([x].map (Value.int .u8))[j]? = some u → (W.alloc (.cells #[.int .u8 x] 5)).cell? ((⟨W.heap.size, 0, none⟩ : Addr).add j) = some u := by
  intro j u h
  have hc := cell_of_row (W.alloc (.cells #[.int .u8 x] 5)) W.heap.size j _ _ _ (heap_alloc_new W _)
  rw [Go.WideShapes.add_plain, Nat.zero_add, hc]
  simpa using h
theorem ones8 (l : List Int) : ∀ u ∈ l.map (Value.int .u8), u.oneCell' = true := by
  intro u hu
  obtain ⟨x, _, rfl⟩ := List.mem_map.1 hu
  rfl
/-- The bytes so far. -/
structure Ob (w W : World) (v : Value) (n : Nat) (ys : List Int) : Prop where
  own : W.ownsRow w.heap.size 5 1 v n (ys.map (Value.int .u8))
  bel : Below w.heap.size w W
theorem Ob.app {w W w2 : World} {v v' : Value} {n : Nat} {ys : List Int} {x : Int} (h : Ob w W v n ys) {o : Obj} (ho : w2.ownsRow w.heap.size 5 1 v' (n + 1) (ys.map (Value.int .u8) ++ [x].map (Value.int .u8))) (hg : (W.alloc o).grownBy w2 v.ownBlock) : Ob w w2 v' (n + 1) (ys ++ [x]) := by
  refine ⟨by rw [List.map_append]; exact ho, ?_⟩
  have hb := h.bel.alloc h.bel.size o
  refine ⟨hg.os.trans hb.os, hg.tape.trans hb.tape, hg.output.trans hb.output, Nat.le_trans hb.size hg.size, fun k hk => ?_⟩
  refine (hg.block k (Nat.lt_of_lt_of_le hk hb.size) ?_).trans (hb.block k hk)
  intro e
  have := (h.own.lt k e.symm).1
  omega
theorem Ob.kba {w W : World} {v : Value} {n : Nat} {ys : List Int} (h : Ob w W v n ys) (o : Obj) : w.heap.size ≤ (W.alloc o).heap.size := by have := h.bel.size; simp; omega
def Utf8P (w : World) (s : ByteArray) (e : Ending) (w' : World) : Prop := ∃ v, e = .returned (.tuple #[v, .bool true]) ∧ Ob w w' v s.size (bs s s.size)

set_option maxRecDepth 100000 in
set_option maxHeartbeats 16000000 in
theorem utf12 (w : World) (a : Option Addr) (ca : Nat) (s : ByteArray) (hs : s.size ≤ 65536) (hv : VS s) (hrow : Row w a (us s s.size 0).length (fun i => .int .u16 ((us s s.size 0).getD i 0))) :
    Calls Try.prog 12 #[.slice a (us s s.size 0).length ca] w (Utf8P w s) := by
  obtain ⟨i0, hi, hz⟩ := Option.map_eq_some_iff.1 info8
  simp only [Prod.mk.injEq] at hz
  obtain ⟨hz0, hz1, hz2⟩ := hz
  have HI0 := Lib.hid hi
  have HZ0 := Lib.hid hz0
  have HZ1 := Lib.hid hz1
  have HZ2 := Lib.hid hz2
  clear hi hz0 hz1 hz2
  have HVS := Lib.hid hv
  have HR := Lib.hid hrow
  have hN := us_len s
  obtain ⟨N, hNe⟩ : ∃ N, (us s s.size 0).length = N := ⟨_, rfl⟩
  rw [hNe] at hN
  have HNE := Lib.hid hNe
  have hmk := make8 w (3 * N) (by omega)
  rw [show ((3 * N : Nat) : Int) = 3 * (N : Int) by omega] at hmk
  rw [hNe]
  clear hv hrow hNe
  go_enter Try.func12, Try.ntmps12
  go_wp2_with fail
  clear hmk
  have hst : Ob w (w.alloc (.cells (madeCells #[.int .u8 0] (3 * N)) 5)) (.slice (some ⟨w.heap.size, 0, none⟩) 0 (3 * N)) 0 (bs s 0) := ⟨World.ownsRow_made w (madeCells #[.int .u8 0] (3 * N)) (3 * N) (Nat.le_refl _) (by unfold maxLen; omega) (made8_size _), (Below.refl _ _).alloc (Nat.le_refl _) _⟩
  have HST := Lib.hid hst
  clear hst
  go_loopw [4, 5] (fun v4 v5 wr => ∃ t pos i : Nat, pl s t = pos ∧ v5 = .int .i64 i ∧ Ux s pos i ∧ pos ≤ s.size ∧ Ob w wr v4 pos (bs s pos)) (fun _ v5 _ => N - (intOf v5).toNat)
  case atStart => exact ⟨0, 0, 0, rfl, rfl, Ux.start s, by omega, HST.out⟩
  case round =>
    clear HST
    obtain ⟨t, pos, i, hpl, rfl, hux, hpos, hob⟩ := hrel
    have HPL := Lib.hid hpl
    have HU := Lib.hid hux
    have HO := Lib.hid hob
    clear hpl hux hob
    rename World => wr
    by_cases hlt : pos < s.size
    · have K63 : Hid (∀ m, m ≤ 70000 → m + 1 ≤ maxLen) := Lib.hid fun m hm => by unfold maxLen; omega
      have K47 : Hid (∀ m, m ≤ 70000 → (m + 1) * 1 ≤ 140737488355328) := Lib.hid fun m hm => by omega
      obtain ⟨c, hc⟩ : ∃ c, (Utf8.decode s pos).1 = c := ⟨_, rfl⟩
      obtain ⟨wd, hwd⟩ : ∃ wd, (Utf8.decode s pos).2 = wd := ⟨_, rfl⟩
      have hok : Ok s pos := by have := HVS.out t (by rw [HPL.out]; exact hlt); rw [HPL.out] at this; exact this
      unfold Ok at hok
      rw [hc, hwd] at hok
      have hfit := fits s pos hlt
      rw [hwd] at hfit
      obtain ⟨f1, f2⟩ := hfit
      obtain ⟨hg, hr⟩ := hok
      unfold GoodR at hg
      have hinv := dec_inv hc hwd hr
      have HWD := Lib.hid hwd
      clear hr
      by_cases h16 : c ≤ 65535
      · obtain ⟨u1, hu2, u3⟩ := HU.out.one hlt hc hwd h16
        rw [HNE.out] at hu2
        have hiN : i < N := by omega
        have HUX := Lib.hid u3
        obtain ⟨b1, o1, rfl, hc1⟩ := HR.out (by rw [HNE.out]; omega)
        have k1 := hc1 i (by rw [HNE.out]; omega)
        dsimp only at k1
        rw [u1] at k1
        have c1 := (HO.out.bel.cell (p := ⟨b1, o1 + i, none⟩) (block_lt_of_cell k1)).trans k1
        clear hc1 k1 u1 u3 hc hwd
        rcases hinv with ⟨rfl, e1, h1⟩ | ⟨rfl, e1, e2, h1, h2⟩ | ⟨rfl, e1, e2, e3, h1, h2⟩ | ⟨rfl, _, _, _, _, h1, h2⟩
        · have hby : bs s (pos + 1) = bs s pos ++ [(c : Int)] := by rw [bs_succ, e1]
          have HBY := Lib.hid hby
          clear hby e1 h16 hg
          go_wp2_with (at_builtin; go_loud (refine wpList_append_own _ rfl (.tmp 61) (.tmp 64) 38 rfl w.heap.size 5 i0 (.int .u8 0) 1 1 Try.underlying38 HI0.out HZ0.out HZ1.out HZ2.out rfl (by decide) _ (pos) ((bs s pos).map (Value.int .u8)) rfl (HO.out.own.alloc _) ⟨wr.heap.size, 0, none⟩ 1 1 ([(c : Int)].map (Value.int .u8)) rfl rfl (news8 _ ((c : Int))) (ones8 _) (K63.out _ (by omega)) (K47.out _ (by omega)) (HO.out.kba _) ?_); intro v1 w1 hown hgrow _)
          have HO1 := Lib.hid (HO.out.app hown hgrow)
          clear hown hgrow
          go_roundw
          case rel => exact ⟨t + 1, pos + 1, i + 1, pl_step HPL.out HWD.out, by go_num, HUX.out, by omega, by have e := HBY.out; rw [e]; exact HO1.out⟩
          case measure => simp [intOf]; omega
        · obtain ⟨p, hp⟩ : ∃ p, c / 64 = p := ⟨_, rfl⟩
          obtain ⟨r, hr⟩ : ∃ r, c % 64 = r := ⟨_, rfl⟩
          have hby : bs s (pos + 2) = bs s pos ++ [192 + (p : Int)] ++ [128 + (r : Int)] := by rw [bs_succ, bs_succ, e1, e2, hp, hr]; simp
          have HBY := Lib.hid hby
          have q1 : (c : Int) / 64 = (p : Int) := by omega
          have x1 := o192 p (by omega)
          have x2 := a63 c (by omega)
          rw [hr] at x2
          have x3 := o128 r (by omega)
          have p1 : p < 32 := by omega
          have p2 : r < 64 := by omega
          clear hby e1 e2 h16 hg hp hr
          go_upto_region 20 with (at_builtin; go_loud (refine wpList_append_own _ rfl (.tmp 68) (.tmp 73) 38 rfl w.heap.size 5 i0 (.int .u8 0) 1 1 Try.underlying38 HI0.out HZ0.out HZ1.out HZ2.out rfl (by decide) _ (pos) ((bs s pos).map (Value.int .u8)) rfl (HO.out.own.alloc _) ⟨wr.heap.size, 0, none⟩ 1 1 ([192 + (p : Int)].map (Value.int .u8)) rfl rfl (news8 _ (192 + (p : Int))) (ones8 _) (K63.out _ (by omega)) (K47.out _ (by omega)) (HO.out.kba _) ?_); intro v1 w1 hown hgrow _)
          have HO1 := Lib.hid (HO.out.app hown hgrow)
          clear hown hgrow
          go_wp2_with (at_builtin; go_loud (refine wpList_append_own _ rfl (.tmp 75) (.tmp 80) 38 rfl w.heap.size 5 i0 (.int .u8 0) 1 1 Try.underlying38 HI0.out HZ0.out HZ1.out HZ2.out rfl (by decide) _ (pos + 1) ((bs s pos ++ [192 + (p : Int)]).map (Value.int .u8)) rfl (HO1.out.own.alloc _) ⟨w1.heap.size, 0, none⟩ 1 1 ([128 + (r : Int)].map (Value.int .u8)) rfl rfl (news8 _ (128 + (r : Int))) (ones8 _) (K63.out _ (by omega)) (K47.out _ (by omega)) (HO1.out.kba _) ?_); intro v2 w2 hown hgrow _)
          have HO2 := Lib.hid (HO1.out.app hown hgrow)
          clear hown hgrow
          go_roundw
          case rel => exact ⟨t + 1, pos + 2, i + 1, pl_step HPL.out HWD.out, by go_num, HUX.out, by omega, by have e := HBY.out; rw [e]; exact HO2.out⟩
          case measure => simp [intOf]; omega
        · obtain ⟨p, hp⟩ : ∃ p, c / 4096 = p := ⟨_, rfl⟩
          obtain ⟨m, hm⟩ : ∃ m, c / 64 = m := ⟨_, rfl⟩
          obtain ⟨q, hq⟩ : ∃ q, c / 64 % 64 = q := ⟨_, rfl⟩
          obtain ⟨r, hr⟩ : ∃ r, c % 64 = r := ⟨_, rfl⟩
          have hby : bs s (pos + 3) = bs s pos ++ [224 + (p : Int)] ++ [128 + (q : Int)] ++ [128 + (r : Int)] := by rw [bs_succ, bs_succ, bs_succ, e1, e2, e3, hp, hq, hr]; simp
          have HBY := Lib.hid hby
          have q1 : (c : Int) / 4096 = (p : Int) := by omega
          have q2 : (c : Int) / 64 = (m : Int) := by omega
          have x1 := o224 p (by omega)
          have x2 := a63 m (by omega)
          rw [show m % 64 = q by omega] at x2
          have x3 := o128 q (by omega)
          have x4 := a63 c (by omega)
          rw [hr] at x4
          have x5 := o128 r (by omega)
          have p1 : p < 16 := by omega
          have p2 : q < 64 := by omega
          have p3 : r < 64 := by omega
          have d1 : decide ((c : Int) < 65536) = true := by simp; omega
          have d5 : decide ((c : Int) < 128) = false := by simp; omega
          have d6 : decide ((c : Int) < 2048) = false := by simp; omega
          have hcx : (c : Int) ≤ 65535 := by omega
          clear hby e1 e2 e3 hp hq hr hm h2 h1 h16
          by_cases h5 : c < 55296
          · have t1 : decide ((55296 : Int) ≤ (c : Int)) = false := by simp; omega
            have t2 : decide ((56320 : Int) ≤ (c : Int)) = false := by simp; omega
            clear h5 hg
            go_upto_region 23 with (at_builtin; go_loud (refine wpList_append_own _ rfl (.tmp 84) (.tmp 89) 38 rfl w.heap.size 5 i0 (.int .u8 0) 1 1 Try.underlying38 HI0.out HZ0.out HZ1.out HZ2.out rfl (by decide) _ (pos) ((bs s pos).map (Value.int .u8)) rfl (HO.out.own.alloc _) ⟨wr.heap.size, 0, none⟩ 1 1 ([224 + (p : Int)].map (Value.int .u8)) rfl rfl (news8 _ (224 + (p : Int))) (ones8 _) (K63.out _ (by omega)) (K47.out _ (by omega)) (HO.out.kba _) ?_); intro v1 w1 hown hgrow _)
            have HO1 := Lib.hid (HO.out.app hown hgrow)
            clear hown hgrow
            go_upto_region 24 with (at_builtin; go_loud (refine wpList_append_own _ rfl (.tmp 91) (.tmp 97) 38 rfl w.heap.size 5 i0 (.int .u8 0) 1 1 Try.underlying38 HI0.out HZ0.out HZ1.out HZ2.out rfl (by decide) _ (pos + 1) ((bs s pos ++ [224 + (p : Int)]).map (Value.int .u8)) rfl (HO1.out.own.alloc _) ⟨w1.heap.size, 0, none⟩ 1 1 ([128 + (q : Int)].map (Value.int .u8)) rfl rfl (news8 _ (128 + (q : Int))) (ones8 _) (K63.out _ (by omega)) (K47.out _ (by omega)) (HO1.out.kba _) ?_); intro v2 w2 hown hgrow _)
            have HO2 := Lib.hid (HO1.out.app hown hgrow)
            clear hown hgrow
            go_wp2_with (at_builtin; go_loud (refine wpList_append_own _ rfl (.tmp 99) (.tmp 104) 38 rfl w.heap.size 5 i0 (.int .u8 0) 1 1 Try.underlying38 HI0.out HZ0.out HZ1.out HZ2.out rfl (by decide) _ (pos + 1 + 1) ((bs s pos ++ [224 + (p : Int)] ++ [128 + (q : Int)]).map (Value.int .u8)) rfl (HO2.out.own.alloc _) ⟨w2.heap.size, 0, none⟩ 1 1 ([128 + (r : Int)].map (Value.int .u8)) rfl rfl (news8 _ (128 + (r : Int))) (ones8 _) (K63.out _ (by omega)) (K47.out _ (by omega)) (HO2.out.kba _) ?_); intro v3 w3 hown hgrow _)
            have HO3 := Lib.hid (HO2.out.app hown hgrow)
            clear hown hgrow
            go_roundw
            case rel => exact ⟨t + 1, pos + 3, i + 1, pl_step HPL.out HWD.out, by go_num, HUX.out, by omega, by have e := HBY.out; rw [e]; exact HO3.out⟩
            case measure => simp [intOf]; omega
          · have h6 : 57344 ≤ c := by omega
            have t1 : decide ((55296 : Int) ≤ (c : Int)) = true := by simp; omega
            have t2 : decide ((56320 : Int) ≤ (c : Int)) = true := by simp; omega
            have t3 : decide ((c : Int) ≤ 56319) = false := by simp; omega
            have t4 : decide ((c : Int) ≤ 57343) = false := by simp; omega
            clear h5 h6 hg
            go_upto_region 23 with (at_builtin; go_loud (refine wpList_append_own _ rfl (.tmp 84) (.tmp 89) 38 rfl w.heap.size 5 i0 (.int .u8 0) 1 1 Try.underlying38 HI0.out HZ0.out HZ1.out HZ2.out rfl (by decide) _ (pos) ((bs s pos).map (Value.int .u8)) rfl (HO.out.own.alloc _) ⟨wr.heap.size, 0, none⟩ 1 1 ([224 + (p : Int)].map (Value.int .u8)) rfl rfl (news8 _ (224 + (p : Int))) (ones8 _) (K63.out _ (by omega)) (K47.out _ (by omega)) (HO.out.kba _) ?_); intro v1 w1 hown hgrow _)
            have HO1 := Lib.hid (HO.out.app hown hgrow)
            clear hown hgrow
            go_upto_region 24 with (at_builtin; go_loud (refine wpList_append_own _ rfl (.tmp 91) (.tmp 97) 38 rfl w.heap.size 5 i0 (.int .u8 0) 1 1 Try.underlying38 HI0.out HZ0.out HZ1.out HZ2.out rfl (by decide) _ (pos + 1) ((bs s pos ++ [224 + (p : Int)]).map (Value.int .u8)) rfl (HO1.out.own.alloc _) ⟨w1.heap.size, 0, none⟩ 1 1 ([128 + (q : Int)].map (Value.int .u8)) rfl rfl (news8 _ (128 + (q : Int))) (ones8 _) (K63.out _ (by omega)) (K47.out _ (by omega)) (HO1.out.kba _) ?_); intro v2 w2 hown hgrow _)
            have HO2 := Lib.hid (HO1.out.app hown hgrow)
            clear hown hgrow
            go_wp2_with (at_builtin; go_loud (refine wpList_append_own _ rfl (.tmp 99) (.tmp 104) 38 rfl w.heap.size 5 i0 (.int .u8 0) 1 1 Try.underlying38 HI0.out HZ0.out HZ1.out HZ2.out rfl (by decide) _ (pos + 1 + 1) ((bs s pos ++ [224 + (p : Int)] ++ [128 + (q : Int)]).map (Value.int .u8)) rfl (HO2.out.own.alloc _) ⟨w2.heap.size, 0, none⟩ 1 1 ([128 + (r : Int)].map (Value.int .u8)) rfl rfl (news8 _ (128 + (r : Int))) (ones8 _) (K63.out _ (by omega)) (K47.out _ (by omega)) (HO2.out.kba _) ?_); intro v3 w3 hown hgrow _)
            have HO3 := Lib.hid (HO2.out.app hown hgrow)
            clear hown hgrow
            go_roundw
            case rel => exact ⟨t + 1, pos + 3, i + 1, pl_step HPL.out HWD.out, by go_num, HUX.out, by omega, by have e := HBY.out; rw [e]; exact HO3.out⟩
            case measure => simp [intOf]; omega
        · omega
      · obtain ⟨u1, v1, hu2, u3⟩ := HU.out.two hlt hc hwd (by omega)
        rw [HNE.out] at hu2
        have hiN : i < N := by omega
        have hiN2 : i + 1 < N := by omega
        have HUX := Lib.hid u3
        obtain ⟨b1, o1, rfl, hc1⟩ := HR.out (by rw [HNE.out]; omega)
        have k1 := hc1 i (by rw [HNE.out]; omega)
        have k2 := hc1 (i + 1) (by rw [HNE.out]; omega)
        rcases hinv with ⟨rfl, e1, h1⟩ | ⟨rfl, e1, e2, h1, h2⟩ | ⟨rfl, e1, e2, e3, h1, h2⟩ | ⟨rfl, e1, e2, e3, e4, h1, h2⟩
        · omega
        · omega
        · omega
        · obtain ⟨x, hx⟩ : ∃ x, (c - 65536) / 1024 = x := ⟨_, rfl⟩
          obtain ⟨y, hy⟩ : ∃ y, (c - 65536) % 1024 = y := ⟨_, rfl⟩
          dsimp only at k1 k2
          rw [u1] at k1
          rw [v1] at k2
          obtain ⟨g1, hg1⟩ : ∃ g : Int, 55296 + ((c : Int) - 65536) / 1024 = g := ⟨_, rfl⟩
          obtain ⟨g2, hg2⟩ : ∃ g : Int, 56320 + ((c : Int) - 65536) % 1024 = g := ⟨_, rfl⟩
          rw [hg1] at k1
          rw [hg2] at k2
          have s1 : g1 - 55296 = (x : Int) := by omega
          have s2 : g2 - 56320 = (y : Int) := by omega
          have t1 : decide (55296 ≤ g1) = true := by simp; omega
          have t2 : decide (g1 ≤ 56319) = true := by simp; omega
          have t3 : decide (g2 < 56320) = false := by simp; omega
          have t4 : decide (57343 < g2) = false := by simp; omega
          have b1g : 0 ≤ g1 ∧ g1 ≤ 65535 := by omega
          have b2g : 0 ≤ g2 ∧ g2 ≤ 65535 := by omega
          obtain ⟨b1g, b1h⟩ := b1g
          obtain ⟨b2g, b2h⟩ := b2g
          have c1 := (HO.out.bel.cell (p := ⟨b1, o1 + i, none⟩) (block_lt_of_cell k1)).trans k1
          have c2 := (HO.out.bel.cell (p := ⟨b1, o1 + (i + 1), none⟩) (block_lt_of_cell k2)).trans k2
          have hC : (65536 : Int) + (x : Int) * 1024 + (y : Int) = (c : Int) := by omega
          have hx2 : x < 1024 := by omega
          have hy2 : y < 1024 := by omega
          have hcx : (c : Int) ≤ 1114111 := by omega
          have d1 : decide ((c : Int) < 65536) = false := by simp; omega
          have d2 : (2048 : Int) ≤ (c : Int) := by omega
          have d3 : decide ((N : Int) ≤ (i : Int) + 1) = false := by simp; omega
          have d5 : decide ((c : Int) < 128) = false := by simp; omega
          have d6 : decide ((c : Int) < 2048) = false := by simp; omega
          obtain ⟨p, hp⟩ : ∃ p, c / 262144 = p := ⟨_, rfl⟩
          obtain ⟨m2, hm2⟩ : ∃ m, c / 4096 = m := ⟨_, rfl⟩
          obtain ⟨m, hm⟩ : ∃ m, c / 64 = m := ⟨_, rfl⟩
          obtain ⟨q2, hq2⟩ : ∃ q, c / 4096 % 64 = q := ⟨_, rfl⟩
          obtain ⟨q, hq⟩ : ∃ q, c / 64 % 64 = q := ⟨_, rfl⟩
          obtain ⟨r, hr⟩ : ∃ r, c % 64 = r := ⟨_, rfl⟩
          have hby : bs s (pos + 4) = bs s pos ++ [240 + (p : Int)] ++ [128 + (q2 : Int)] ++ [128 + (q : Int)] ++ [128 + (r : Int)] := by rw [bs_succ, bs_succ, bs_succ, bs_succ, e1, e2, e3, e4, hp, hq2, hq, hr]; simp
          have HBY := Lib.hid hby
          have y1 : (c : Int) / 262144 = (p : Int) := by omega
          have y2 : (c : Int) / 4096 = (m2 : Int) := by omega
          have y3 : (c : Int) / 64 = (m : Int) := by omega
          have x1 := o240 p (by omega)
          have x2 := a63 m2 (by omega)
          rw [show m2 % 64 = q2 by omega] at x2
          have x3 := o128 q2 (by omega)
          have x4 := a63 m (by omega)
          rw [show m % 64 = q by omega] at x4
          have x5 := o128 q (by omega)
          have x6 := a63 c (by omega)
          rw [hr] at x6
          have x7 := o128 r (by omega)
          have p1 : p < 8 := by omega
          have p2 : q2 < 64 := by omega
          have p3 : q < 64 := by omega
          have p4 : r < 64 := by omega
          clear hby e1 e2 e3 e4 hp hq hq2 hr hm hm2 h1 h2 h16 hg hx hy hc1 k1 k2 u1 v1 u3 hc hwd hg1 hg2
          go_upto_region 26 with (at_builtin; go_loud (refine wpList_append_own _ rfl (.tmp 106) (.tmp 111) 38 rfl w.heap.size 5 i0 (.int .u8 0) 1 1 Try.underlying38 HI0.out HZ0.out HZ1.out HZ2.out rfl (by decide) _ (pos) ((bs s pos).map (Value.int .u8)) rfl (HO.out.own.alloc _) ⟨wr.heap.size, 0, none⟩ 1 1 ([240 + (p : Int)].map (Value.int .u8)) rfl rfl (news8 _ (240 + (p : Int))) (ones8 _) (K63.out _ (by omega)) (K47.out _ (by omega)) (HO.out.kba _) ?_); intro v1 w1 hown hgrow _)
          have HO1 := Lib.hid (HO.out.app hown hgrow)
          clear hown hgrow
          go_upto_region 27 with (at_builtin; go_loud (refine wpList_append_own _ rfl (.tmp 113) (.tmp 119) 38 rfl w.heap.size 5 i0 (.int .u8 0) 1 1 Try.underlying38 HI0.out HZ0.out HZ1.out HZ2.out rfl (by decide) _ (pos + 1) ((bs s pos ++ [240 + (p : Int)]).map (Value.int .u8)) rfl (HO1.out.own.alloc _) ⟨w1.heap.size, 0, none⟩ 1 1 ([128 + (q2 : Int)].map (Value.int .u8)) rfl rfl (news8 _ (128 + (q2 : Int))) (ones8 _) (K63.out _ (by omega)) (K47.out _ (by omega)) (HO1.out.kba _) ?_); intro v2 w2 hown hgrow _)
          have HO2 := Lib.hid (HO1.out.app hown hgrow)
          clear hown hgrow
          go_upto_region 28 with (at_builtin; go_loud (refine wpList_append_own _ rfl (.tmp 121) (.tmp 127) 38 rfl w.heap.size 5 i0 (.int .u8 0) 1 1 Try.underlying38 HI0.out HZ0.out HZ1.out HZ2.out rfl (by decide) _ (pos + 1 + 1) ((bs s pos ++ [240 + (p : Int)] ++ [128 + (q2 : Int)]).map (Value.int .u8)) rfl (HO2.out.own.alloc _) ⟨w2.heap.size, 0, none⟩ 1 1 ([128 + (q : Int)].map (Value.int .u8)) rfl rfl (news8 _ (128 + (q : Int))) (ones8 _) (K63.out _ (by omega)) (K47.out _ (by omega)) (HO2.out.kba _) ?_); intro v3 w3 hown hgrow _)
          have HO3 := Lib.hid (HO2.out.app hown hgrow)
          clear hown hgrow
          go_wp2_with (at_builtin; go_loud (refine wpList_append_own _ rfl (.tmp 129) (.tmp 134) 38 rfl w.heap.size 5 i0 (.int .u8 0) 1 1 Try.underlying38 HI0.out HZ0.out HZ1.out HZ2.out rfl (by decide) _ (pos + 1 + 1 + 1) ((bs s pos ++ [240 + (p : Int)] ++ [128 + (q2 : Int)] ++ [128 + (q : Int)]).map (Value.int .u8)) rfl (HO3.out.own.alloc _) ⟨w3.heap.size, 0, none⟩ 1 1 ([128 + (r : Int)].map (Value.int .u8)) rfl rfl (news8 _ (128 + (r : Int))) (ones8 _) (K63.out _ (by omega)) (K47.out _ (by omega)) (HO3.out.kba _) ?_); intro v4 w4 hown hgrow _)
          have HO4 := Lib.hid (HO3.out.app hown hgrow)
          clear hown hgrow
          go_roundw
          case rel => exact ⟨t + 1, pos + 4, i + 2, pl_step HPL.out HWD.out, by go_num, HUX.out, by omega, by have e := HBY.out; rw [e]; exact HO4.out⟩
          case measure => simp [intOf]; omega
    · have hi := HU.out.done hlt
      rw [HNE.out] at hi
      subst hi
      obtain rfl : pos = s.size := by omega
      go_wp2_with fail
      go_ret2
      exact ⟨_, rfl, HO.out⟩
end Go.Proofs.Ytjhmdagdmclknaa.ut
