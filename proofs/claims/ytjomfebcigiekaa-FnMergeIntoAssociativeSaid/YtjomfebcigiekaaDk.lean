/-
  Deferred errors: the law walked.
-/
import Derived.Test.YtjomfebcigiekaaDj

namespace Go.Proofs.Ytjomfebcigiekaa.de
open Go.ChangeShapes Go.WideShapes Go.ChangeAt Go.RowKit Go.Deep
set_option linter.unusedVariables false
set_option linter.unusedSimpArgs false
set_option linter.unnecessarySimpa false
set_option maxRecDepth 100000
set_option maxHeartbeats 1000000
theorem pk_assign {P : Program} {o : Oper} {a : Act} {w : World} {K : Act → World → Prop} {Q : Exit → Act → World → Prop} {v : Value} (x : Operand) (ho : o.op = .assign x) (hx : a.eval x = v) (h : K (a.put o.dst v) w) : o.wp P a w K Q := by
  unfold Oper.wp
  rw [BigFrame.run_assign x ho, hx, Oper.upon_value]
  exact h
theorem law14 (w : World) (p q r : Nat → Int) (xa xb xc : Option Addr) (n ca m cb l cc : Nat) (z1 z2 z3 : Nat → Int) (hn : n ≤ maxLen) (hm : m ≤ maxLen) (hl : l ≤ maxLen) (ha : Row w xa (n * 2) (zc z1)) (hb : Row w xb (m * 2) (zc z2)) (hc : Row w xc (l * 2) (zc z3))
    (hna : xa = none → n = 0 ∧ ca = 0) (hnb : xb = none → m = 0 ∧ cb = 0) (hnc : xc = none → l = 0 ∧ cc = 0) : Calls Try.prog 4 #[.agg (dA p xa n ca), .agg (dA q xb m cb), .agg (dA r xc l cc)] w fun e w' => e = .returned (.bool true) ∧ Below w.heap.size w w' := by
  have hb0 : Below w.heap.size w (((w.alloc (.cells (dA p xa n ca) 31)).alloc (.cells (dA q xb m cb) 31)).alloc (.cells (dA r xc l cc) 31)) := (((Below.refl _ _).alloc (Nat.le_refl _) _).alloc (by simp) _).alloc (by simp; omega) _
  have e1 : (((w.alloc (.cells (dA p xa n ca) 31)).alloc (.cells (dA q xb m cb) 31)).alloc (.cells (dA r xc l cc) 31)).heap[w.heap.size]? = some (.cells (dA p xa n ca) 31 (0, 0)) := blk (heap_alloc2_old ..) ((Below.refl _ _).alloc (Nat.le_refl _) _)
  have e2 : (((w.alloc (.cells (dA p xa n ca) 31)).alloc (.cells (dA q xb m cb) 31)).alloc (.cells (dA r xc l cc) 31)).heap[w.heap.size + 1]? = some (.cells (dA q xb m cb) 31 (0, 0)) := by
    have h := heap_alloc2_old (w.alloc (.cells (dA p xa n ca) 31)) (.cells (dA q xb m cb) 31) (.cells (dA r xc l cc) 31)
    rw [show (w.alloc (.cells (dA p xa n ca) 31)).heap.size = w.heap.size + 1 by simp] at h
    exact h
  have e3 : (((w.alloc (.cells (dA p xa n ca) 31)).alloc (.cells (dA q xb m cb) 31)).alloc (.cells (dA r xc l cc) 31)).heap[w.heap.size + 1 + 1]? = some (.cells (dA r xc l cc) 31 (0, 0)) := by
    have h := heap_alloc_new ((w.alloc (.cells (dA p xa n ca) 31)).alloc (.cells (dA q xb m cb) 31)) (.cells (dA r xc l cc) 31)
    rw [show ((w.alloc (.cells (dA p xa n ca) 31)).alloc (.cells (dA q xb m cb) 31)).heap.size = w.heap.size + 1 + 1 by simp] at h
    exact h
  have H1 := Lib.hid e1
  have H2 := Lib.hid e2
  have H3 := Lib.hid e3
  have HB0 := Lib.hid hb0
  have HR1 : Hid (Row (((w.alloc (.cells (dA p xa n ca) 31)).alloc (.cells (dA q xb m cb) 31)).alloc (.cells (dA r xc l cc) 31)) xa (n * 2) (zc z1)) := Lib.hid (((ha.below ((Below.refl _ _).alloc (Nat.le_refl _) _)).below ((Below.refl _ _).alloc (Nat.le_refl _) _)).below ((Below.refl _ _).alloc (Nat.le_refl _) _))
  have HR2 : Hid (Row (((w.alloc (.cells (dA p xa n ca) 31)).alloc (.cells (dA q xb m cb) 31)).alloc (.cells (dA r xc l cc) 31)) xb (m * 2) (zc z2)) := Lib.hid (((hb.below ((Below.refl _ _).alloc (Nat.le_refl _) _)).below ((Below.refl _ _).alloc (Nat.le_refl _) _)).below ((Below.refl _ _).alloc (Nat.le_refl _) _))
  have HR3 : Hid (Row (((w.alloc (.cells (dA p xa n ca) 31)).alloc (.cells (dA q xb m cb) 31)).alloc (.cells (dA r xc l cc) 31)) xc (l * 2) (zc z3)) := Lib.hid (((hc.below ((Below.refl _ _).alloc (Nat.le_refl _) _)).below ((Below.refl _ _).alloc (Nat.le_refl _) _)).below ((Below.refl _ _).alloc (Nat.le_refl _) _))
  have HNA := Lib.hid hna
  have HNB := Lib.hid hnb
  have HNC := Lib.hid hnc
  have H6 := Lib.hid (fun w1 => bytes6 w1 p q r xa xb xc n ca m cb l cc hn hm hl)
  clear e1 e2 e3 hb0 ha hb hc hna hnb hnc
  unfold maxLen at hn hm hl
  go_enter Try.func4, Try.ntmps4
  go_upto_region 1 with (fail)
  generalize (((w.alloc (.cells (dA p xa n ca) 31)).alloc (.cells (dA q xb m cb) 31)).alloc (.cells (dA r xc l cc) 31)) = w1 at *
  go_wp2_with (first | (refine wpList_load_row rfl 31 _ rfl (w.heap.size) rfl 31 (dA p xa n ca) (0, 0) _ H1.out Try.underlying31 rfl (by kernel_rfl) ?_) | (refine wpList_load_row rfl 31 _ rfl (w.heap.size + 1) rfl 31 (dA q xb m cb) (0, 0) _ H2.out Try.underlying31 rfl (by kernel_rfl) ?_) | (refine wpList_load_row rfl 31 _ rfl (w.heap.size + 1 + 1) rfl 31 (dA r xc l cc) (0, 0) _ H3.out Try.underlying31 rfl (by kernel_rfl) ?_))
  refine (H6.out _).mono ?_
  rintro e w2 ⟨⟨b, rfl⟩, hbw⟩
  have HB2 := Lib.hid hbw
  clear hbw
  cases b
  · go_wp2_with fail
    go_ret
    exact ⟨rfl, HB0.out.trans (HB2.out.mono HB0.out.size)⟩
  have HBW := Lib.hid (HB0.out.trans (HB2.out.mono HB0.out.size))
  replace H1 := Lib.hid (blk H1.out HB2.out)
  replace HR1 := Lib.hid (HR1.out.below HB2.out)
  replace H2 := Lib.hid (blk H2.out HB2.out)
  replace HR2 := Lib.hid (HR2.out.below HB2.out)
  replace H3 := Lib.hid (blk H3.out HB2.out)
  replace HR3 := Lib.hid (HR3.out.below HB2.out)
  clear HB0 HB2 H6
  have k0 : w2.cell? ⟨w.heap.size, 6, none⟩ = some (.slice xa n ca) := (cell_of_row _ _ 6 _ _ _ H1.out).trans rfl
  have k1 : w2.cell? ⟨w.heap.size + 1, 6, none⟩ = some (.slice xb m cb) := (cell_of_row _ _ 6 _ _ _ H2.out).trans rfl
  have k2 : w2.cell? ⟨w.heap.size + 1 + 1, 6, none⟩ = some (.slice xc l cc) := (cell_of_row _ _ 6 _ _ _ H3.out).trans rfl
  by_cases gn : 32768 < n
  · go_wp2_with fail
    go_ret
    exact ⟨rfl, HBW.out⟩
  by_cases gm : 32768 < m
  · go_wp2_with fail
    go_ret
    exact ⟨rfl, HBW.out⟩
  by_cases gl : 32768 < l
  · go_wp2_with fail
    go_ret
    exact ⟨rfl, HBW.out⟩
  replace gn : n ≤ 32768 := by omega
  replace gm : m ≤ 32768 := by omega
  replace gl : l ≤ 32768 := by omega
  go_upto_region 5 with (fail)
  clear k0 k1 k2
  try simp only [Act.put, List.setIfInBounds_toArray, List.set_cons_zero, List.set_cons_succ]
  refine reg_use (ops := ops4_5) (by kernel_rfl) ?_
  refine reg4_5 _ w.heap.size (w.heap.size + 1 + 1) p r z1 z3 xa xc n _ l _ rfl rfl rfl H1.out H3.out (by omega) (by omega) HR1.out HR3.out HNA.out HNC.out ?_
  intro a1 v1 t1 hd1 hs1 ho1 hg1 hb1 hw1 hr1
  have HD : a1.defers = [] := hd1
  have q3 : a1.eval (.tmp 3) = .pointer (some ⟨w.heap.size, 0, none⟩) := (ho1 3 (by kernel_rfl)).trans rfl
  have q4 : a1.eval (.tmp 4) = .pointer (some ⟨(w.heap.size + 1), 0, none⟩) := (ho1 4 (by kernel_rfl)).trans rfl
  have q5 : a1.eval (.tmp 5) = .pointer (some ⟨(w.heap.size + 1 + 1), 0, none⟩) := (ho1 5 (by kernel_rfl)).trans rfl
  have q8 := hg1
  clear hd1 ho1 hg1
  replace HBW := Lib.hid (HBW.out.trans (hb1.mono HBW.out.size))
  replace H1 := Lib.hid (blk H1.out hb1)
  replace HR1 := Lib.hid (HR1.out.below hb1)
  replace H2 := Lib.hid (blk H2.out hb1)
  replace HR2 := Lib.hid (HR2.out.below hb1)
  replace H3 := Lib.hid (blk H3.out hb1)
  replace HR3 := Lib.hid (HR3.out.below hb1)
  have G1 := Lib.hid hr1
  have O1 := Lib.hid hw1
  clear hr1 hw1 hb1
  repeat go_step
  refine reg_use (ops := ops4_6) (by kernel_rfl) ?_
  refine reg4_6 _ (w.heap.size + 1) t1.g2 q (mp p r) z2 (cat z3 l z1) xb t1.y m _ (l + n) _ hs1 q4 q8 H2.out G1.out (by omega) (by omega) HR2.out O1.out.row HNB.out O1.out.nil ?_
  intro a2 v2 t2 hd2 hs2 ho2 hg2 hb2 hw2 hr2
  replace HD : a2.defers = [] := hd2.trans HD
  replace q3 : a2.eval (.tmp 3) = .pointer (some ⟨w.heap.size, 0, none⟩) := (ho2 3 (by kernel_rfl)).trans q3
  replace q4 : a2.eval (.tmp 4) = .pointer (some ⟨(w.heap.size + 1), 0, none⟩) := (ho2 4 (by kernel_rfl)).trans q4
  replace q5 : a2.eval (.tmp 5) = .pointer (some ⟨(w.heap.size + 1 + 1), 0, none⟩) := (ho2 5 (by kernel_rfl)).trans q5
  have q10 := hg2
  clear hd2 ho2 hg2
  replace HBW := Lib.hid (HBW.out.trans (hb2.mono HBW.out.size))
  replace H1 := Lib.hid (blk H1.out hb2)
  replace HR1 := Lib.hid (HR1.out.below hb2)
  replace H2 := Lib.hid (blk H2.out hb2)
  replace HR2 := Lib.hid (HR2.out.below hb2)
  replace H3 := Lib.hid (blk H3.out hb2)
  replace HR3 := Lib.hid (HR3.out.below hb2)
  replace G1 := Lib.hid (blk G1.out hb2)
  replace O1 := Lib.hid (O1.out.below hb2)
  have G2 := Lib.hid hr2
  have O2 := Lib.hid hw2
  clear hr2 hw2 hb2
  repeat go_step
  refine reg_use (ops := ops4_7) (by kernel_rfl) ?_
  refine reg4_7 _ (w.heap.size + 1) w.heap.size q p z2 z1 xb xa m _ n _ hs2 q4 q3 H2.out H1.out (by omega) (by omega) HR2.out HR1.out HNB.out HNA.out ?_
  intro a3 v3 t3 hd3 hs3 ho3 hg3 hb3 hw3 hr3
  replace HD : a3.defers = [] := hd3.trans HD
  replace q3 : a3.eval (.tmp 3) = .pointer (some ⟨w.heap.size, 0, none⟩) := (ho3 3 (by kernel_rfl)).trans q3
  replace q4 : a3.eval (.tmp 4) = .pointer (some ⟨(w.heap.size + 1), 0, none⟩) := (ho3 4 (by kernel_rfl)).trans q4
  replace q5 : a3.eval (.tmp 5) = .pointer (some ⟨(w.heap.size + 1 + 1), 0, none⟩) := (ho3 5 (by kernel_rfl)).trans q5
  replace q10 : a3.eval (.tmp 10) = .pointer (some ⟨t2.g2, 0, none⟩) := (ho3 10 (by kernel_rfl)).trans q10
  have q12 := hg3
  clear hd3 ho3 hg3
  replace HBW := Lib.hid (HBW.out.trans (hb3.mono HBW.out.size))
  replace H1 := Lib.hid (blk H1.out hb3)
  replace HR1 := Lib.hid (HR1.out.below hb3)
  replace H2 := Lib.hid (blk H2.out hb3)
  replace HR2 := Lib.hid (HR2.out.below hb3)
  replace H3 := Lib.hid (blk H3.out hb3)
  replace HR3 := Lib.hid (HR3.out.below hb3)
  replace G1 := Lib.hid (blk G1.out hb3)
  replace O1 := Lib.hid (O1.out.below hb3)
  replace G2 := Lib.hid (blk G2.out hb3)
  replace O2 := Lib.hid (O2.out.below hb3)
  have G3 := Lib.hid hr3
  have O3 := Lib.hid hw3
  clear hr3 hw3 hb3
  repeat go_step
  refine reg_use (ops := ops4_8) (by kernel_rfl) ?_
  refine reg4_8 _ t3.g2 (w.heap.size + 1 + 1) (mp q p) r (cat z1 n z2) z3 t3.y xc (n + m) _ l _ hs3 q12 q5 G3.out H3.out (by omega) (by omega) O3.out.row HR3.out O3.out.nil HNC.out ?_
  intro a4 v4 t4 hd4 hs4 ho4 hg4 hb4 hw4 hr4
  replace HD : a4.defers = [] := hd4.trans HD
  replace q10 : a4.eval (.tmp 10) = .pointer (some ⟨t2.g2, 0, none⟩) := (ho4 10 (by kernel_rfl)).trans q10
  have q14 := hg4
  clear hd4 ho4 hg4
  replace HBW := Lib.hid (HBW.out.trans (hb4.mono HBW.out.size))
  replace H1 := Lib.hid (blk H1.out hb4)
  replace HR1 := Lib.hid (HR1.out.below hb4)
  replace H2 := Lib.hid (blk H2.out hb4)
  replace HR2 := Lib.hid (HR2.out.below hb4)
  replace H3 := Lib.hid (blk H3.out hb4)
  replace HR3 := Lib.hid (HR3.out.below hb4)
  replace G1 := Lib.hid (blk G1.out hb4)
  replace O1 := Lib.hid (O1.out.below hb4)
  replace G2 := Lib.hid (blk G2.out hb4)
  replace O2 := Lib.hid (O2.out.below hb4)
  replace G3 := Lib.hid (blk G3.out hb4)
  replace O3 := Lib.hid (O3.out.below hb4)
  have G4 := Lib.hid hr4
  have O4 := Lib.hid hw4
  clear hr4 hw4 hb4
  go_step
  go_step
  go_step
  go_step
  have E1 : v4.heap[t2.g2]? = some (.cells (dA (mp (mp q p) r) t2.y (l + (n + m)) t2.f) 36 (0, 0)) := by
    have h := G2.out
    rw [mp_assoc p q r, Nat.add_assoc] at h
    exact h
  have E2 : Row v4 t2.y ((l + (n + m)) * 2) (zc (cat z3 l (cat z1 n z2))) := by
    have h := O2.out.row
    rw [cat_assoc, Nat.add_assoc] at h
    exact h
  have E3 := equal9 v4 (mp (mp q p) r) (cat z3 l (cat z1 n z2)) t2.y t4.y (l + (n + m)) t2.f t4.f (by omega) E2 O4.out.row
  refine wpList_load_row rfl 36 _ rfl t2.g2 q10 36 _ (0, 0) _ E1 Try.underlying36 rfl (by kernel_rfl) ?_
  refine wpList_load_row rfl 36 _ rfl t4.g2 ((tmps_put_ne (by decide)).trans q14) 36 _ (0, 0) _ G4.out Try.underlying36 rfl (by kernel_rfl) ?_
  have hx : (((a4.put (some 66) (.agg (dA (mp (mp q p) r) t2.y (l + (n + m)) t2.f))).put (some 67) (.agg (dA (mp (mp q p) r) t4.y (l + (n + m)) t4.f)))).eval (.tmp 66) = .agg (dA (mp (mp q p) r) t2.y (l + (n + m)) t2.f) := (tmps_put_ne (by decide)).trans (tmps_put_same (by rw [hs4]; decide))
  have hy : (((a4.put (some 66) (.agg (dA (mp (mp q p) r) t2.y (l + (n + m)) t2.f))).put (some 67) (.agg (dA (mp (mp q p) r) t4.y (l + (n + m)) t4.f)))).eval (.tmp 67) = .agg (dA (mp (mp q p) r) t4.y (l + (n + m)) t4.f) := tmps_put_same (by rw [size_put, hs4]; decide)
  have hz3 : (((a4.put (some 66) (.agg (dA (mp (mp q p) r) t2.y (l + (n + m)) t2.f))).put (some 67) (.agg (dA (mp (mp q p) r) t4.y (l + (n + m)) t4.f)))).tmps.size = 69 := by rw [size_put, size_put, hs4]
  have hd5 : (((a4.put (some 66) (.agg (dA (mp (mp q p) r) t2.y (l + (n + m)) t2.f))).put (some 67) (.agg (dA (mp (mp q p) r) t4.y (l + (n + m)) t4.f)))).defers = [] := by rw [defers_put, defers_put, HD]
  generalize ((a4.put (some 66) (.agg (dA (mp (mp q p) r) t2.y (l + (n + m)) t2.f))).put (some 67) (.agg (dA (mp (mp q p) r) t4.y (l + (n + m)) t4.f))) = a5 at *
  refine wpList_step (fun K hK => ?_)
  rw [if_pos (by kernel_rfl)]
  refine k_call (f := 9) (args := #[.agg (dA (mp (mp q p) r) t2.y (l + (n + m)) t2.f), .agg (dA (mp (mp q p) r) t4.y (l + (n + m)) t4.f)]) ?_ (R := fun v w' => v = .bool true ∧ Below v4.heap.size v4 w') (E3.mono fun e w' hh => ⟨_, hh.1, rfl, hh.2⟩) ?_
  · unfold execOp
    simp only [List.map_toArray, List.map_cons, List.map_nil, hx, hy]
    go_simp
    exact ⟨by simpa [Act.eval, hz3] using hx, by simpa [Act.eval, hz3] using hy⟩
  rintro v w5 ⟨rfl, hb5⟩
  refine hK _ _ ?_
  clear hK K
  have hz : (a5.put (some 68) (.bool true)).eval (.tmp 68) = .bool true := tmps_put_same (by rw [hz3]; decide)
  have hz4 : (a5.put (some 68) (.bool true)).tmps.size = 69 := by rw [size_put, hz3]
  have hd6 : (a5.put (some 68) (.bool true)).defers = [] := by rw [defers_put, hd5]
  generalize a5.put (some 68) (.bool true) = a6 at *
  refine wpList_step (fun K hK => ?_)
  rw [if_pos (by kernel_rfl)]
  refine pk_assign (.tmp 68) rfl hz (hK _ _ ?_)
  clear hK K
  have hf : (a6.put (some 6) (.bool true)).eval (.tmp 6) = .bool true := tmps_put_same (by rw [hz4]; decide)
  have hd7 : (a6.put (some 6) (.bool true)).defers = [] := by rw [defers_put, hd6]
  generalize a6.put (some 6) (.bool true) = a7 at *
  have hf' : a7.tmps[6]?.getD undef = .bool true := by simpa [Act.eval] using hf
  repeat go_step
  refine bodyPost_ret (v := .bool true) (by simp [results, Try.results4, hf']) hd7 ⟨rfl, HBW.out.trans (hb5.mono HBW.out.size)⟩
end Go.Proofs.Ytjomfebcigiekaa.de
