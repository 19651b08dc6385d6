/-
  The statement on units walked.
-/
import Derived.Test.YtmbeddbcinhleaaUc
namespace Go.Proofs.Ytmbeddbcinhleaa.ut
open Go.ChangeShapes Go.WideShapes Go.ChangeAt Go.RowKit Go.Deep Go.Proofs.Ytmbeddbcinhleaa.u8
set_option linter.unusedVariables false
set_option linter.unusedSimpArgs false

theorem high6_no (w : World) (c : Int) (h : c < 55296 ∨ 56319 < c) : Calls Try.prog 6 #[.int .u16 c] w fun e w' => e = .returned (.bool false) ∧ w = w' := by
  by_cases h1 : c < 55296
  · have t1 : decide ((55296 : Int) ≤ c) = false := by simp; omega
    clear h h1
    go_enter Try.func6, Try.ntmps6
    go_wp2_with fail
    go_ret
    exact ⟨rfl, rfl⟩
  · have t1 : decide ((55296 : Int) ≤ c) = true := by simp; omega
    have t2 : decide (c ≤ 56319) = false := by simp; omega
    clear h h1
    go_enter Try.func6, Try.ntmps6
    go_wp2_with fail
    go_ret
    exact ⟨rfl, rfl⟩
theorem high6_yes (w : World) (c : Int) (h : 55296 ≤ c) (h' : c ≤ 56319) : Calls Try.prog 6 #[.int .u16 c] w fun e w' => e = .returned (.bool true) ∧ w = w' := by
  have t1 : decide ((55296 : Int) ≤ c) = true := by simp; omega
  have t2 : decide (c ≤ 56319) = true := by simp; omega
  clear h h'
  go_enter Try.func6, Try.ntmps6
  go_wp2_with fail
  go_ret
  exact ⟨rfl, rfl⟩
theorem low7_no (w : World) (c : Int) (h : c < 56320 ∨ 57343 < c) : Calls Try.prog 7 #[.int .u16 c] w fun e w' => e = .returned (.bool false) ∧ w = w' := by
  by_cases h1 : c < 56320
  · have t1 : decide ((56320 : Int) ≤ c) = false := by simp; omega
    clear h h1
    go_enter Try.func7, Try.ntmps7
    go_wp2_with fail
    go_ret
    exact ⟨rfl, rfl⟩
  · have t1 : decide ((56320 : Int) ≤ c) = true := by simp; omega
    have t2 : decide (c ≤ 57343) = false := by simp; omega
    clear h h1
    go_enter Try.func7, Try.ntmps7
    go_wp2_with fail
    go_ret
    exact ⟨rfl, rfl⟩
theorem low7_yes (w : World) (c : Int) (h : 56320 ≤ c) (h' : c ≤ 57343) : Calls Try.prog 7 #[.int .u16 c] w fun e w' => e = .returned (.bool true) ∧ w = w' := by
  have t1 : decide ((56320 : Int) ≤ c) = true := by simp; omega
  have t2 : decide (c ≤ 57343) = true := by simp; omega
  clear h h'
  go_enter Try.func7, Try.ntmps7
  go_wp2_with fail
  go_ret
  exact ⟨rfl, rfl⟩
theorem pair8 (w : World) (g1 g2 : Int) (x y c : Nat) (s1 : g1 - 55296 = (x : Int)) (s2 : g2 - 56320 = (y : Int)) (hx : x < 1024) (hy : y < 1024) (hC : (65536 : Int) + (x : Int) * 1024 + (y : Int) = (c : Int)) :
    Calls Try.prog 8 #[.int .u16 g1, .int .u16 g2] w fun e w' => e = .returned (.int .i32 c) ∧ w = w' := by
  have b1 : 0 ≤ g1 := by omega
  have b2 : g1 ≤ 65535 := by omega
  have b3 : 0 ≤ g2 := by omega
  have b4 : g2 ≤ 65535 := by omega
  go_enter Try.func8, Try.ntmps8
  go_wp2_with fail
  go_ret
  exact ⟨rfl, rfl⟩
theorem bytes4 (w : World) (s : ByteArray) (v : Bool) (hv : decide (s.size ≤ 1048576) = v) (hm : s.size ≤ maxLen) : Calls Try.prog 4 #[.string s] w fun e w' => e = .returned (.bool v) ∧ w = w' := by
  unfold maxLen at hm
  have HV := Lib.hid hv
  clear hv
  by_cases h1 : 1048576 < s.size
  · obtain rfl : v = false := by rw [← HV.out]; simp; omega
    go_enter Try.func4, Try.ntmps4
    go_wp2_with fail
    go_ret
    exact ⟨rfl, rfl⟩
  obtain rfl : v = true := by rw [← HV.out]; simp; omega
  go_enter Try.func4, Try.ntmps4
  go_wp2_with fail
  go_ret
  exact ⟨rfl, rfl⟩
set_option maxRecDepth 100000 in
set_option maxHeartbeats 8000000 in
theorem law38 (w : World) (s : ByteArray) (hm : s.size ≤ maxLen) : Calls Try.prog 3 #[.string s] w fun e w' => e = .returned (.bool true) ∧ Below w.heap.size w w' := by
  by_cases h0 : ¬ (s.size ≤ 1048576)
  · have H4 := Lib.hid (bytes4 w s false (by simpa using h0) hm)
    clear h0 hm
    go_enter Try.func3, Try.ntmps3
    go_wp2_with (go_at_call 4; (with_reducible refine H4.out.mono ?_); rintro e w' ⟨rfl, rfl⟩)
    go_ret
    exact ⟨rfl, Below.refl _ _⟩
  have H4 := Lib.hid (bytes4 w s true (by simp; omega) hm)
  have hs : s.size ≤ 1048576 := by omega
  have HS := Lib.hid hs
  have hd : decide ((1048576 : Int) < (s.size : Int)) = false := by simp; omega
  obtain ⟨i0, hi, hz⟩ := Option.map_eq_some_iff.1 info32
  simp only [Prod.mk.injEq] at hz
  obtain ⟨hz0, hz1, hz2⟩ := hz
  have HI0 := Lib.hid hi
  have HZ0 := Lib.hid hz0
  have HZ1 := Lib.hid hz1
  have HZ2 := Lib.hid hz2
  clear hi hz0 hz1 hz2 h0 hm hs
  go_enter Try.func3, Try.ntmps3
  go_wp2_with (go_at_call 4; (with_reducible refine H4.out.mono ?_); rintro e w' ⟨rfl, rfl⟩)
  refine (s2u w s HS.out).mono ?_
  rintro e w1 ⟨⟨v1, rfl, hv1⟩, hb1⟩
  obtain ⟨a1, c1, rfl, hr1⟩ := hv1.keep (w' := w1) (fun _ _ _ => rfl)
  have HR1 := Lib.hid hr1
  have HB1 := Lib.hid hb1
  obtain ⟨v2, w2, hcv, ⟨a2, c2, rfl, hr2⟩, hb2⟩ := runes_row w1 s HS.out
  have HR2 := Lib.hid hr2
  have HR12 := Lib.hid (HR1.out.below hb2)
  have HB2 := Lib.hid (HB1.out.trans (hb2.mono HB1.out.size))
  have hN := us_len s
  have hM := rs_len s
  have hsz := HS.out
  obtain ⟨N, hNe⟩ : ∃ N, (us s s.size 0).length = N := ⟨_, rfl⟩
  rw [hNe] at hN
  have hN2 : N ≤ 4194304 := by omega
  have HNE := Lib.hid hNe
  have hmk := make32 w2 N hN2
  have HM := Lib.hid hM
  rw [hNe]
  clear hr1 hb1 hr2 hb2 hNe hv1 hM hsz hN
  go_simp
  go_wp2_with fail
  clear hmk hcv
  have hst : Ob w2 (w2.alloc (.cells (madeCells #[.int .i32 0] N) 21)) (.slice (some ⟨w2.heap.size, 0, none⟩) 0 N) 0 [] := ⟨World.ownsRow_made w2 (madeCells #[.int .i32 0] N) N (Nat.le_refl _) (by unfold maxLen; omega) (made32_size _), (Below.refl _ _).alloc (Nat.le_refl _) _⟩
  have HST := Lib.hid hst
  clear hst
  go_loopw [5, 6] (fun v5 v6 wr => ∃ (pos i n : Nat) (ys : List Int), v6 = .int .i64 i ∧ Ux s pos i ∧ Rx s pos ys ∧ n = ys.length ∧ Ob w2 wr v5 n ys) (fun _ v6 _ => N - (intOf v6).toNat)
  case atStart => exact ⟨0, 0, 0, [], rfl, Ux.start s, Rx.start s, rfl, HST.out⟩
  case round =>
    clear HST
    obtain ⟨pos, i, n, ys, rfl, hux, hrx, hny, hob⟩ := hrel
    have HU := Lib.hid hux
    have HX := Lib.hid hrx
    have HO := Lib.hid hob
    have HNY := Lib.hid hny
    have hnb : n ≤ pos ∧ pos ≤ s.size := by obtain ⟨b, _, _, h3, h4⟩ := hrx; omega
    have hnb2 : n ≤ 1048576 := by have := HS.out; omega
    have K63 : Hid (n + 1 ≤ maxLen) := Lib.hid (by unfold maxLen; omega)
    have K47 : Hid ((n + 1) * 4 ≤ 140737488355328) := Lib.hid (by omega)
    clear hux hrx hob hny hnb hnb2
    rename World => wr
    by_cases hlt : pos < s.size
    · obtain ⟨c, hc⟩ : ∃ c, (Utf8.decode s pos).1 = c := ⟨_, rfl⟩
      obtain ⟨wd, hwd⟩ : ∃ wd, (Utf8.decode s pos).2 = wd := ⟨_, rfl⟩
      have hg := dec_max s pos
      rw [hc] at hg
      unfold GoodR at hg
      have HRX := Lib.hid (HX.out.step hlt hc hwd)
      by_cases h16 : c ≤ 65535
      · obtain ⟨u1, hu2, u3⟩ := HU.out.one hlt hc hwd h16
        rw [HNE.out] at hu2
        have hiN : i < N := by omega
        have HUX := Lib.hid u3
        obtain ⟨b1, o1, rfl, hc1⟩ := HR12.out (by rw [HNE.out]; omega)
        have k1 := hc1 i (by rw [HNE.out]; omega)
        dsimp only at k1
        rw [u1] at k1
        have c1 := (HO.out.bel.cell (p := ⟨b1, o1 + i, none⟩) (block_lt_of_cell k1)).trans k1
        have H6 := Lib.hid (fun w' => high6_no w' (c : Int) (by omega))
        have H7 := Lib.hid (fun w' => low7_no w' (c : Int) (by omega))
        have hcx : (c : Int) ≤ 65535 := by omega
        clear hc1 k1 u1 u3 hc hwd hg h16 hlt
        go_wp2_with fail
        refine (H6.out _).mono ?_
        rintro e w' ⟨rfl, rfl⟩
        go_simp
        go_wp2_with fail
        refine (H7.out _).mono ?_
        rintro e w' ⟨rfl, rfl⟩
        go_simp
        go_wp2_with (at_builtin; go_loud (refine wpList_append_own _ rfl (.tmp 59) (.tmp 62) 25 rfl w2.heap.size 21 i0 (.int .i32 0) 1 4 Try.underlying25 HI0.out HZ0.out HZ1.out HZ2.out rfl (by decide) _ n (ys.map (Value.int .i32)) rfl (HO.out.own.alloc _) ⟨wr.heap.size, 0, none⟩ 1 1 ([(c : Int)].map (Value.int .i32)) rfl rfl (news32 _ ((c : Int))) (ones32 _) K63.out K47.out (HO.out.kba _) ?_); intro v5 w5 hown hgrow _)
        have HO5 := Lib.hid (HO.out.app hown hgrow)
        clear hown hgrow
        go_roundw
        case rel => exact ⟨pos + wd, i + 1, n + 1, ys ++ [(c : Int)], by go_num, HUX.out, HRX.out, by rw [List.length_append, ← HNY.out]; rfl, HO5.out⟩
        case measure => simp [intOf]; omega
      · obtain ⟨u1, v1, hu2, u3⟩ := HU.out.two hlt hc hwd (by omega)
        rw [HNE.out] at hu2
        have hiN : i < N := by omega
        have hiN2 : i + 1 < N := by omega
        have HUX := Lib.hid u3
        obtain ⟨b1, o1, rfl, hc1⟩ := HR12.out (by rw [HNE.out]; omega)
        have k1 := hc1 i (by rw [HNE.out]; omega)
        have k2 := hc1 (i + 1) (by rw [HNE.out]; omega)
        dsimp only at k1 k2
        rw [u1] at k1
        rw [v1] at k2
        obtain ⟨x, hx⟩ : ∃ x, (c - 65536) / 1024 = x := ⟨_, rfl⟩
        obtain ⟨y, hy⟩ : ∃ y, (c - 65536) % 1024 = y := ⟨_, rfl⟩
        obtain ⟨g1, hg1⟩ : ∃ g : Int, 55296 + ((c : Int) - 65536) / 1024 = g := ⟨_, rfl⟩
        obtain ⟨g2, hg2⟩ : ∃ g : Int, 56320 + ((c : Int) - 65536) % 1024 = g := ⟨_, rfl⟩
        rw [hg1] at k1
        rw [hg2] at k2
        have c1 := (HO.out.bel.cell (p := ⟨b1, o1 + i, none⟩) (block_lt_of_cell k1)).trans k1
        have c2 := (HO.out.bel.cell (p := ⟨b1, o1 + (i + 1), none⟩) (block_lt_of_cell k2)).trans k2
        have d3 : decide ((N : Int) ≤ (i : Int) + 1) = false := by simp; omega
        have H6 := Lib.hid (fun w' => high6_yes w' g1 (by omega) (by omega))
        have H7 := Lib.hid (fun w' => low7_yes w' g2 (by omega) (by omega))
        have H8 := Lib.hid (fun w' => pair8 w' g1 g2 x y c (by omega) (by omega) (by omega) (by omega) (by omega))
        clear hc1 k1 k2 u1 v1 u3 hc hwd hg h16 hlt hx hy hg1 hg2
        go_wp2_with fail
        refine (H6.out _).mono ?_
        rintro e w' ⟨rfl, rfl⟩
        go_simp
        go_wp2_with fail
        refine (H7.out _).mono ?_
        rintro e w' ⟨rfl, rfl⟩
        go_simp
        go_wp2_with fail
        refine (H8.out _).mono ?_
        rintro e w' ⟨rfl, rfl⟩
        go_simp
        go_wp2_with (at_builtin; go_loud (refine wpList_append_own _ rfl (.tmp 45) (.tmp 53) 25 rfl w2.heap.size 21 i0 (.int .i32 0) 1 4 Try.underlying25 HI0.out HZ0.out HZ1.out HZ2.out rfl (by decide) _ n (ys.map (Value.int .i32)) rfl (HO.out.own.alloc _) ⟨wr.heap.size, 0, none⟩ 1 1 ([(c : Int)].map (Value.int .i32)) rfl rfl (news32 _ ((c : Int))) (ones32 _) K63.out K47.out (HO.out.kba _) ?_); intro v5 w5 hown hgrow _)
        have HO5 := Lib.hid (HO.out.app hown hgrow)
        clear hown hgrow
        go_roundw
        case rel => exact ⟨pos + wd, i + 2, n + 1, ys ++ [(c : Int)], by go_num, HUX.out, HRX.out, by rw [List.length_append, ← HNY.out]; rfl, HO5.out⟩
        case measure => simp [intOf]; omega
    · have hi := HU.out.done hlt
      rw [HNE.out] at hi
      subst hi
      have hy := HX.out.done hlt
      subst hy
      have hv := Lr.of_own HO.out.own HNY.out
      have HO2 := Lib.hid HO.out.bel
      have HB3 := Lib.hid (HB2.out.trans (HO.out.bel.mono HB2.out.size))
      have HR2b := Lib.hid (HR2.out.below HO.out.bel)
      obtain ⟨a5, c5, hv5, hr5⟩ := hv
      subst hv5
      have HR5 := Lib.hid hr5
      clear hr5 HO K63 K47 HNY
      go_wp2_with fail
      refine (eq9 _ a5 a2 c5 c2 (rs s s.size 0) (by have := HM.out; have := HS.out; omega) HR5.out HR2b.out).mono ?_
      rintro e w6 ⟨rfl, hb⟩
      have HB6 := Lib.hid (HB3.out.trans (hb.mono HB3.out.size))
      clear hb
      go_simp
      go_wp2_with fail
      go_ret
      exact ⟨rfl, HB6.out⟩
end Go.Proofs.Ytmbeddbcinhleaa.ut
