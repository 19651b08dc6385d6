/-
  Options: law 31.
-/
import Derived.Test.YtbebfpmnekbldaaOu
import Derived.Deep.CutBlock

namespace Go.Proofs.Ytbebfpmnekbldaa.op
open Go.ChangeShapes Go.WideShapes Go.ChangeAt Go.RowKit Go.Deep
set_option linter.unusedVariables false
set_option linter.unusedSimpArgs false
set_option maxRecDepth 100000
set_option maxHeartbeats 4000000
theorem ws_skip {P : Program} {ops : Array Oper} {rest : List Oper} {o : Oper} {a : Act} {w : World} {Q : Exit → Act → World → Prop} (hw : Region.wanted o (yielded ops a.tmps) = false) (h : wpList P ops Q rest (a.put o.dst undef) w) : wpList P ops Q (o :: rest) a w :=
  wpList_step fun K hK => by rw [if_neg (by rw [hw]; simp)]; exact hK _ _ h
section
variable {o : Oper} {a : Act} {w : World} {K : Act → World → Prop} {Q : Exit → Act → World → Prop} {l : List (Nat × Cfg)}
theorem k_ld65 (H : Held2 w l) (x : Operand) (ho : o.op = .load 65 x) (B : Nat) (c : Cfg) (hm : (B, c) ∈ l) (hx : a.eval x = .pointer (some ⟨B, 0, none⟩)) (h : K (a.put o.dst (.agg c.arr)) w) : o.wp Try.prog a w K Q :=
  wp_load_row 65 x ho B hx 65 _ (0, 0) _ (H _ hm).1 Try.underlying65 rfl (by rw [Cfg.size]; kernel_rfl) h
theorem k_cnt (H : Held2 w l) (c : Cfg) (hm : c ∈ l.map (·.2)) (hrun : (execOp a.eval o).run Try.prog w = .ok (.enter 11 #[.agg c.arr]) w)
    (h : ∀ w' (k : Int), (k ≤ 1048576 → c.ln ≤ 65536) → Below w.heap.size w w' → Held2 w' l → K (a.put o.dst (.int .i64 k)) w') : o.wp Try.prog a w K Q := by
  obtain ⟨p, hp, rfl⟩ := List.mem_map.1 hm
  refine k_call hrun (R := fun v w' => ∃ k : Int, v = .int .i64 k ∧ (k ≤ 1048576 → p.2.ln ≤ 65536) ∧ Below w.heap.size w w') ((count11c w p.2 (H p hp).2).mono fun e w' ⟨⟨k, he, hk⟩, hb⟩ => ⟨_, he, k, rfl, hk, hb⟩) ?_
  rintro v w' ⟨k, rfl, hk, hb⟩
  exact h w' k hk hb (H.below hb)
end
theorem Cfg.ok.off_ge {c : Cfg} {w : World} {A : Nat} (h : c.ok w) (hA : w.heap.size ≤ A) : c.off A := fun h0 x hx => by
  obtain ⟨b, off, e, hc⟩ := h.2.2.2.1 h0
  rw [hx] at e
  cases e
  have hlt : b < w.heap.size := block_lt_of_cell (a := ⟨b, off + 0, none⟩) (hc 0 h0)
  show b ≠ _
  omega
noncomputable def ops6 : Array Oper := (Try.f6.body.bind (regOps 11)).getD #[]
theorem size6 : ops6.size = 7 := by kernel_rfl
noncomputable def V6 (oa ob : Opt) (c : Bool) (i : Nat) : Value := [.agg oa.cells, .agg ob.cells, .bool c, .agg ob.cells, .agg oa.cells, .bool c, .bool false].getD i undef
theorem region6 {id : Nat} {a0 : Act} {Q : Exit → Act → World → Prop} (w1 : World) (B1 B2 : Nat) (oa ob : Opt) (c : Bool) (hs : a0.tmps.size = 61) (h7 : a0.eval (.tmp 7) = .pointer (some ⟨B1, 0, none⟩)) (h8 : a0.eval (.tmp 8) = .pointer (some ⟨B2, 0, none⟩))
    (hA : w1.heap[B1]? = some (.cells oa.cells 60 (0, 0)) ∧ oa.ok w1) (hB : w1.heap[B2]? = some (.cells ob.cells 60 (0, 0)) ∧ ob.ok w1) (hc : (c = true) ↔ oa.Same ob)
    (hQ : ∀ (w' : World), Below w1.heap.size w1 w' → Q .normal (((((((a0.put (some 40) (.agg oa.cells)).put (some 41) (.agg ob.cells)).put (some 42) (.bool c)).put (some 43) (.agg ob.cells)).put (some 44) (.agg oa.cells)).put (some 45) (.bool c)).put (some 46) (.bool false)) w') :
    (Code.region id ops6 true).wp Try.prog Q a0 w1 := by
  have hc' : (c = true) ↔ ob.Same oa := hc.trans ⟨Opt.Same.symm, Opt.Same.symm⟩
  refine wp_region_sl (Θ := Unit) (by kernel_rfl) (fun _ => V6 oa ob c) (fun _ _ w' => Below w1.heap.size w1 w') (by kernel_rfl) (by rw [hs]; kernel_rfl) () (Below.refl _ _).drew ?_ ?_
  · intro i o t L ac w' ho hL hu hall hS hW
    have hi : i < 7 := by rw [← size6]; exact (Array.getElem?_eq_some_iff.1 ho).1
    have hoa' := hA.2.below hW
    have hob' := hB.2.below hW
    have rcs : i = 0 ∨ i = 1 ∨ i = 2 ∨ i = 3 ∨ i = 4 ∨ i = 5 ∨ i = 6 := by omega
    rcases rcs with rfl | rfl | rfl | rfl | rfl | rfl | rfl
    · have ho1 := at_op (q := Op.load 60 (Operand.tmp 7)) (by kernel_rfl) ho
      have hx : ac.eval (.tmp 7) = .pointer (some ⟨B1, 0, none⟩) := (hS.out (by kernel_rfl)).trans h7
      exact wp_load_row 60 _ ho1 B1 hx 60 oa.cells (0, 0) _ ((hW.block B1 (lt_of_block hA.1)).trans hA.1) Try.underlying60 rfl (by rw [Opt.size]; kernel_rfl) ⟨(), rfl, fun _ _ => rfl, hW⟩
    · have ho1 := at_op (q := Op.load 60 (Operand.tmp 8)) (by kernel_rfl) ho
      have hx : ac.eval (.tmp 8) = .pointer (some ⟨B2, 0, none⟩) := (hS.out (by kernel_rfl)).trans h8
      exact wp_load_row 60 _ ho1 B2 hx 60 ob.cells (0, 0) _ ((hW.block B2 (lt_of_block hB.1)).trans hB.1) Try.underlying60 rfl (by rw [Opt.size]; kernel_rfl) ⟨(), rfl, fun _ _ => rfl, hW⟩
    · have ho1 := at_op (q := Op.call { callee := Callee.value (Operand.func 9), args := #[Operand.tmp 40, Operand.tmp 41], argTypes := #[60, 60] }) (by kernel_rfl) ho
      have hx : ac.eval (.tmp 40) = .agg oa.cells := hS.arg (p := 0) (d := 40) ho hall (by kernel_rfl) (by kernel_rfl)
      have hy : ac.eval (.tmp 41) = .agg ob.cells := hS.arg (p := 1) (d := 41) ho hall (by kernel_rfl) (by kernel_rfl)
      have hrun : (execOp ac.eval o).run Try.prog w' = .ok (.enter 9 #[.agg oa.cells, .agg ob.cells]) w' := by
        unfold execOp
        simp only [ho1, List.map_toArray, List.map_cons, List.map_nil, hx, hy]
        go_simp
        exact ⟨by simpa [Act.eval] using hx, by simpa [Act.eval] using hy⟩
      refine k_call hrun (R := fun v w2 => v = .bool c ∧ Below w'.heap.size w' w2) ((eq9 w' oa ob c hc hoa' hob').mono fun e w2 ⟨h1, h2⟩ => ⟨_, h1, rfl, h2⟩) ?_
      rintro v w2 ⟨rfl, hb⟩
      exact ⟨(), rfl, fun _ _ => rfl, hW.trans (hb.mono hW.size)⟩
    · have ho1 := at_op (q := Op.load 60 (Operand.tmp 8)) (by kernel_rfl) ho
      have hx : ac.eval (.tmp 8) = .pointer (some ⟨B2, 0, none⟩) := (hS.out (by kernel_rfl)).trans h8
      exact wp_load_row 60 _ ho1 B2 hx 60 ob.cells (0, 0) _ ((hW.block B2 (lt_of_block hB.1)).trans hB.1) Try.underlying60 rfl (by rw [Opt.size]; kernel_rfl) ⟨(), rfl, fun _ _ => rfl, hW⟩
    · have ho1 := at_op (q := Op.load 60 (Operand.tmp 7)) (by kernel_rfl) ho
      have hx : ac.eval (.tmp 7) = .pointer (some ⟨B1, 0, none⟩) := (hS.out (by kernel_rfl)).trans h7
      exact wp_load_row 60 _ ho1 B1 hx 60 oa.cells (0, 0) _ ((hW.block B1 (lt_of_block hA.1)).trans hA.1) Try.underlying60 rfl (by rw [Opt.size]; kernel_rfl) ⟨(), rfl, fun _ _ => rfl, hW⟩
    · have ho1 := at_op (q := Op.call { callee := Callee.value (Operand.func 9), args := #[Operand.tmp 43, Operand.tmp 44], argTypes := #[60, 60] }) (by kernel_rfl) ho
      have hx : ac.eval (.tmp 43) = .agg ob.cells := hS.arg (p := 3) (d := 43) ho hall (by kernel_rfl) (by kernel_rfl)
      have hy : ac.eval (.tmp 44) = .agg oa.cells := hS.arg (p := 4) (d := 44) ho hall (by kernel_rfl) (by kernel_rfl)
      have hrun : (execOp ac.eval o).run Try.prog w' = .ok (.enter 9 #[.agg ob.cells, .agg oa.cells]) w' := by
        unfold execOp
        simp only [ho1, List.map_toArray, List.map_cons, List.map_nil, hx, hy]
        go_simp
        exact ⟨by simpa [Act.eval] using hx, by simpa [Act.eval] using hy⟩
      refine k_call hrun (R := fun v w2 => v = .bool c ∧ Below w'.heap.size w' w2) ((eq9 w' ob oa c hc' hob' hoa').mono fun e w2 ⟨h1, h2⟩ => ⟨_, h1, rfl, h2⟩) ?_
      rintro v w2 ⟨rfl, hb⟩
      exact ⟨(), rfl, fun _ _ => rfl, hW.trans (hb.mono hW.size)⟩
    · have ho1 := at_op (q := Op.binOp BinOp.neq 4 (Operand.tmp 42) (Operand.tmp 45) 4) (by kernel_rfl) ho
      have hx : ac.eval (.tmp 42) = .bool c := hS.arg (p := 2) (d := 42) ho hall (by kernel_rfl) (by kernel_rfl)
      have hy : ac.eval (.tmp 45) = .bool c := hS.arg (p := 5) (d := 45) ho hall (by kernel_rfl) (by kernel_rfl)
      refine pure_op (t := t) (V := fun _ => V6 oa ob c) (W := fun _ _ w' => Below w1.heap.size w1 w') (v := .bool false) ?_ rfl hW
      unfold execOp
      simp only [ho1, hx, hy]
      cases c <;> go_simp
  · intro t L ac w' hall hS hW
    have hfin := hS.final (by rw [hs]; kernel_rfl) hall
    have he : finAct ops6 (V6 oa ob c) a0 7 = ((((((a0.put (some 40) (.agg oa.cells)).put (some 41) (.agg ob.cells)).put (some 42) (.bool c)).put (some 43) (.agg ob.cells)).put (some 44) (.agg oa.cells)).put (some 45) (.bool c)).put (some 46) (.bool false) := by kernel_rfl
    rw [size6, he] at hfin
    rw [hfin]
    exact hQ w' hW
theorem walk31 (w : World) (c1 c2 c3 : Cfg) (h1 : c1.ok w) (h2 : c2.ok w) (h3 : c3.ok w) : Calls Try.prog 6 #[.agg c1.arr, .agg c2.arr, .agg c3.arr] w fun e w' => e = .returned (.bool true) ∧ Below w.heap.size w w' := by
  have HC1 : Hid (∀ X, w.heap.size ≤ X → c1.off X) := Lib.hid fun X hX => h1.off_ge hX
  have HC2 : Hid (∀ X, w.heap.size ≤ X → c2.off X) := Lib.hid fun X hX => h2.off_ge hX
  have HC3 : Hid (∀ X, w.heap.size ≤ X → c3.off X) := Lib.hid fun X hX => h3.off_ge hX
  have hb1 : Below w.heap.size w (w.alloc (.cells c1.arr 65)) := (Below.refl _ _).alloc (Nat.le_refl _) _
  have hb2 : Below w.heap.size w ((w.alloc (.cells c1.arr 65)).alloc (.cells c2.arr 65)) := hb1.alloc (by simp) _
  have H2 := Held2.add (Held2.add (Held2.add (w := w) (l := []) (fun p hp => by cases hp) c1 h1) c2 (h2.below hb1)) c3 (h3.below hb2)
  have hz : ∀ (x : World) (o : Obj), (x.alloc o).heap.size = x.heap.size + 1 := fun x o => by simp
  simp only [hz] at H2
  have BB : Below w.heap.size w (((w.alloc (.cells c1.arr 65)).alloc (.cells c2.arr 65)).alloc (.cells c3.arr 65)) := hb2.alloc (by simp; omega) _
  clear h1 h2 h3 hb1 hb2 hz
  go_enter Try.func6, Try.ntmps6
  go_upto_region 3 with (first | (refine wpList_load_row rfl 65 _ rfl w.heap.size rfl 65 _ (0, 0) _ (H2 (w.heap.size, c1) (by simp)).1 Try.underlying65 rfl (by rw [Cfg.size]; kernel_rfl) ?_) | (refine wpList_load_row rfl 65 _ rfl (w.heap.size + 1) rfl 65 _ (0, 0) _ (H2 ((w.heap.size + 1), c2) (by simp)).1 Try.underlying65 rfl (by rw [Cfg.size]; kernel_rfl) ?_) | (refine wpList_load_row rfl 65 _ rfl (w.heap.size + 1 + 1) rfl 65 _ (0, 0) _ (H2 ((w.heap.size + 1 + 1), c3) (by simp)).1 Try.underlying65 rfl (by rw [Cfg.size]; kernel_rfl) ?_) | (go_at_call 15; refine (bytes15 _ c1 c2 c3 (H2 (w.heap.size, c1) (by simp)).2 (H2 ((w.heap.size + 1), c2) (by simp)).2 (H2 ((w.heap.size + 1 + 1), c3) (by simp)).2).mono ?_; rintro e w1 ⟨⟨b, rfl⟩, hb1⟩; replace H2 := H2.below hb1; replace BB := BB.trans (hb1.mono BB.size); clear hb1; cases b))
  · go_ret
    exact ⟨rfl, BB⟩
  refine wp_region_list ?_
  try simp only [Act.put, List.setIfInBounds_toArray, List.set_cons_zero, List.set_cons_succ]
  refine wpList_step (fun K hK => ?_)
  rw [if_pos (by kernel_rfl)]
  refine k_ld65 H2 _ rfl _ c1 (by simp) rfl (hK _ _ ?_)
  clear hK K
  simp only [Act.put, List.setIfInBounds_toArray, List.set_cons_zero, List.set_cons_succ]
  refine wpList_step (fun K hK => ?_)
  rw [if_pos (by kernel_rfl)]
  refine k_cnt H2 c1 (by simp) (by kernel_rfl) fun w2 kk hk hb2 H2n => hK _ _ ?_
  clear hK K
  replace BB := BB.trans (hb2.mono BB.size)
  replace H2 := H2n
  clear hb2 H2n
  simp only [Act.put, List.setIfInBounds_toArray, List.set_cons_zero, List.set_cons_succ]
  refine wpList_step (fun K hK => ?_)
  rw [if_pos (by kernel_rfl)]
  rcases hbg : decide ((1048576 : Int) < kk) with _ | _
  · refine k_val (v := .bool false) (by rw [← hbg]; kernel_rfl) (hK _ _ ?_)
    clear hK K
    simp only [Act.put, List.setIfInBounds_toArray, List.set_cons_zero, List.set_cons_succ]
    have HL1 : Hid (c1.ln ≤ 65536) := Lib.hid (hk (by simpa using hbg))
    clear hbg hk
    refine wpList_step (fun K hK => ?_)
    rw [if_pos (by kernel_rfl)]
    refine k_val (v := .bool false) (by kernel_rfl) (hK _ _ ?_)
    clear hK K
    simp only [Act.put, List.setIfInBounds_toArray, List.set_cons_zero, List.set_cons_succ]
    refine wpList_step (fun K hK => ?_)
    rw [if_pos (by kernel_rfl)]
    refine k_ld65 H2 _ rfl _ c2 (by simp) rfl (hK _ _ ?_)
    clear hK K
    simp only [Act.put, List.setIfInBounds_toArray, List.set_cons_zero, List.set_cons_succ]
    refine wpList_step (fun K hK => ?_)
    rw [if_pos (by kernel_rfl)]
    refine k_cnt H2 c2 (by simp) (by kernel_rfl) fun w2 kk hk hb2 H2n => hK _ _ ?_
    clear hK K
    replace BB := BB.trans (hb2.mono BB.size)
    replace H2 := H2n
    clear hb2 H2n
    simp only [Act.put, List.setIfInBounds_toArray, List.set_cons_zero, List.set_cons_succ]
    refine wpList_step (fun K hK => ?_)
    rw [if_pos (by kernel_rfl)]
    rcases hbg : decide ((1048576 : Int) < kk) with _ | _
    · refine k_val (v := .bool false) (by rw [← hbg]; kernel_rfl) (hK _ _ ?_)
      clear hK K
      simp only [Act.put, List.setIfInBounds_toArray, List.set_cons_zero, List.set_cons_succ]
      have HL2 : Hid (c2.ln ≤ 65536) := Lib.hid (hk (by simpa using hbg))
      clear hbg hk
      refine wpList_step (fun K hK => ?_)
      rw [if_pos (by kernel_rfl)]
      refine k_val (v := .bool false) (by kernel_rfl) (hK _ _ ?_)
      clear hK K
      simp only [Act.put, List.setIfInBounds_toArray, List.set_cons_zero, List.set_cons_succ]
      refine wpList_step (fun K hK => ?_)
      rw [if_pos (by kernel_rfl)]
      refine k_val (v := .bool false) (by kernel_rfl) (hK _ _ ?_)
      clear hK K
      simp only [Act.put, List.setIfInBounds_toArray, List.set_cons_zero, List.set_cons_succ]
      refine wpList_step (fun K hK => ?_)
      rw [if_pos (by kernel_rfl)]
      refine k_ld65 H2 _ rfl _ c3 (by simp) rfl (hK _ _ ?_)
      clear hK K
      simp only [Act.put, List.setIfInBounds_toArray, List.set_cons_zero, List.set_cons_succ]
      refine wpList_step (fun K hK => ?_)
      rw [if_pos (by kernel_rfl)]
      refine k_cnt H2 c3 (by simp) (by kernel_rfl) fun w2 kk hk hb2 H2n => hK _ _ ?_
      clear hK K
      replace BB := BB.trans (hb2.mono BB.size)
      replace H2 := H2n
      clear hb2 H2n
      simp only [Act.put, List.setIfInBounds_toArray, List.set_cons_zero, List.set_cons_succ]
      refine wpList_step (fun K hK => ?_)
      rw [if_pos (by kernel_rfl)]
      rcases hbg : decide ((1048576 : Int) < kk) with _ | _
      · refine k_val (v := .bool false) (by rw [← hbg]; kernel_rfl) (hK _ _ ?_)
        clear hK K
        simp only [Act.put, List.setIfInBounds_toArray, List.set_cons_zero, List.set_cons_succ]
        have HL3 : Hid (c3.ln ≤ 65536) := Lib.hid (hk (by simpa using hbg))
        clear hbg hk
        refine wpList_step (fun K hK => ?_)
        rw [if_pos (by kernel_rfl)]
        refine k_val (v := .bool false) (by kernel_rfl) (hK _ _ ?_)
        clear hK K
        simp only [Act.put, List.setIfInBounds_toArray, List.set_cons_zero, List.set_cons_succ]
        refine wpList_nil ?_
        go_upto_region 6 with (first | (refine wpList_load_row rfl 65 _ rfl w.heap.size rfl 65 _ (0, 0) _ (H2 (w.heap.size, c1) (by simp)).1 Try.underlying65 rfl (by rw [Cfg.size]; kernel_rfl) ?_) | (go_at_call 12; refine (clone12c _ c1 (H2 (w.heap.size, c1) (by simp)).2 (by have := HL1.out; omega)).mono ?_; rintro e w1 ⟨d1, rfl, hlk, hok, hb1, hnw⟩; have HD1 : Hid (∀ X, X < w.heap.size + 3 → d1.off X) := Lib.hid (fun X hX => Cfg.off_old hnw (by have := lt_of_block (H2 ((w.heap.size + 1 + 1), c3) (by simp)).1; omega)); have HLK1 := Lib.hid hlk; have HOK := Lib.hid hok; replace H2 := H2.below hb1; have HG1 := Lib.hid (H2 (w.heap.size, c1) (by simp)).1; replace BB := BB.trans (hb1.mono BB.size); clear hb1 hok hlk hnw) | (refine wpList_store_row rfl 65 _ _ rfl w.heap.size d1.arr rfl rfl 65 _ HG1.out (by rw [Cfg.size]; kernel_rfl) rfl (by kernel_rfl) ?_))
        replace H2 : Held2 _ [(w.heap.size, c1), ((w.heap.size + 1), c2), ((w.heap.size + 1 + 1), c3)] := fun p hp => H2 p (by simp only [List.mem_cons, List.not_mem_nil, or_false] at hp ⊢; rcases hp with hp | hp | hp <;> simp [hp])
        replace H2 := H2.put HOK.out (HD1.out _ (by omega)) (by
          intro p hp
          simp only [List.mem_cons, List.not_mem_nil, or_false] at hp
          rcases hp with rfl | rfl
          all_goals (refine ⟨by simp only; omega, ?_⟩; first | exact HC1.out _ (by omega) | exact HC2.out _ (by omega) | exact HC3.out _ (by omega) | exact HD1.out _ (by omega) | exact HD2.out _ (by omega)))
        replace BB := below_setRow BB (by omega : w.heap.size ≤ w.heap.size) d1.arr
        clear HOK HG1
        generalize w1.setRow _ _ = w0 at *
        try simp only [Act.put, List.setIfInBounds_toArray, List.set_cons_zero, List.set_cons_succ]
        go_upto_region 7 with (first | (refine wpList_load_row rfl 65 _ rfl (w.heap.size + 1) rfl 65 _ (0, 0) _ (H2 ((w.heap.size + 1), c2) (by simp)).1 Try.underlying65 rfl (by rw [Cfg.size]; kernel_rfl) ?_) | (go_at_call 12; refine (clone12c _ c2 (H2 ((w.heap.size + 1), c2) (by simp)).2 (by have := HL2.out; omega)).mono ?_; rintro e w1 ⟨d2, rfl, hlk, hok, hb1, hnw⟩; have HD2 : Hid (∀ X, X < w.heap.size + 3 → d2.off X) := Lib.hid (fun X hX => Cfg.off_old hnw (by have := lt_of_block (H2 ((w.heap.size + 1 + 1), c3) (by simp)).1; omega)); have HLK2 := Lib.hid hlk; have HOK := Lib.hid hok; replace H2 := H2.below hb1; have HG1 := Lib.hid (H2 ((w.heap.size + 1), c2) (by simp)).1; replace BB := BB.trans (hb1.mono BB.size); clear hb1 hok hlk hnw) | (refine wpList_store_row rfl 65 _ _ rfl (w.heap.size + 1) d2.arr rfl rfl 65 _ HG1.out (by rw [Cfg.size]; kernel_rfl) rfl (by kernel_rfl) ?_))
        replace H2 : Held2 _ [((w.heap.size + 1), c2), (w.heap.size, d1), ((w.heap.size + 1 + 1), c3)] := fun p hp => H2 p (by simp only [List.mem_cons, List.not_mem_nil, or_false] at hp ⊢; rcases hp with hp | hp | hp <;> simp [hp])
        replace H2 := H2.put HOK.out (HD2.out _ (by omega)) (by
          intro p hp
          simp only [List.mem_cons, List.not_mem_nil, or_false] at hp
          rcases hp with rfl | rfl
          all_goals (refine ⟨by simp only; omega, ?_⟩; first | exact HC1.out _ (by omega) | exact HC2.out _ (by omega) | exact HC3.out _ (by omega) | exact HD1.out _ (by omega) | exact HD2.out _ (by omega)))
        replace BB := below_setRow BB (by omega : w.heap.size ≤ (w.heap.size + 1)) d2.arr
        clear HOK HG1
        generalize w1.setRow _ _ = w0 at *
        try simp only [Act.put, List.setIfInBounds_toArray, List.set_cons_zero, List.set_cons_succ]
        go_upto_region 8 with (first | (refine wpList_load_row rfl 65 _ rfl (w.heap.size + 1 + 1) rfl 65 _ (0, 0) _ (H2 ((w.heap.size + 1 + 1), c3) (by simp)).1 Try.underlying65 rfl (by rw [Cfg.size]; kernel_rfl) ?_) | (go_at_call 12; refine (clone12c _ c3 (H2 ((w.heap.size + 1 + 1), c3) (by simp)).2 (by have := HL3.out; omega)).mono ?_; rintro e w1 ⟨d3, rfl, hlk, hok, hb1, hnw⟩; have HD3 : Hid (∀ X, X < w.heap.size + 3 → d3.off X) := Lib.hid (fun X hX => Cfg.off_old hnw (by have := lt_of_block (H2 ((w.heap.size + 1 + 1), c3) (by simp)).1; omega)); have HLK3 := Lib.hid hlk; have HOK := Lib.hid hok; replace H2 := H2.below hb1; have HG1 := Lib.hid (H2 ((w.heap.size + 1 + 1), c3) (by simp)).1; replace BB := BB.trans (hb1.mono BB.size); clear hb1 hok hlk hnw) | (refine wpList_store_row rfl 65 _ _ rfl (w.heap.size + 1 + 1) d3.arr rfl rfl 65 _ HG1.out (by rw [Cfg.size]; kernel_rfl) rfl (by kernel_rfl) ?_))
        replace H2 : Held2 _ [((w.heap.size + 1 + 1), c3), (w.heap.size, d1), ((w.heap.size + 1), d2)] := fun p hp => H2 p (by simp only [List.mem_cons, List.not_mem_nil, or_false] at hp ⊢; rcases hp with hp | hp | hp <;> simp [hp])
        replace H2 := H2.put HOK.out (HD3.out _ (by omega)) (by
          intro p hp
          simp only [List.mem_cons, List.not_mem_nil, or_false] at hp
          rcases hp with rfl | rfl
          all_goals (refine ⟨by simp only; omega, ?_⟩; first | exact HC1.out _ (by omega) | exact HC2.out _ (by omega) | exact HC3.out _ (by omega) | exact HD1.out _ (by omega) | exact HD2.out _ (by omega)))
        replace BB := below_setRow BB (by omega : w.heap.size ≤ (w.heap.size + 1 + 1)) d3.arr
        clear HOK HG1
        generalize w1.setRow _ _ = w0 at *
        try simp only [Act.put, List.setIfInBounds_toArray, List.set_cons_zero, List.set_cons_succ]
        have H : Held w0 [] := fun p hp => by cases hp
        clear HC1 HC2 HC3 HD1 HD2 HD3
        go_upto_region 9 with (first | (refine wpList_load_row rfl 65 _ rfl w.heap.size rfl 65 _ (0, 0) _ (H2 (w.heap.size, d1) (by simp)).1 Try.underlying65 rfl (by rw [Cfg.size]; kernel_rfl) ?_) | (go_at_call 8; refine (build8c _ d1 (H2 (w.heap.size, d1) (by simp)).2 (by have := HLK1.out.2.2.2.2.2.2.2.1; have := HL1.out; omega)).mono ?_; rintro e w1 ⟨o1, rfl, hof1, ok1, hb1⟩; replace H := H.below hb1; replace H2 := H2.below hb1; replace BB := BB.trans (hb1.mono BB.size); have OK1 := Lib.hid ok1; clear hb1 ok1 hof1) | (refine Go.Great.wpList_allocTo rfl _ rfl (.pointer (some ⟨_, 0, none⟩)) (.cells oz 60) (alloc60_run _ _ rfl _) ?_) | (refine wpList_store_row rfl 60 _ _ rfl _ o1.cells rfl rfl 60 oz (heap_alloc_new _ _) (by rw [Opt.size]; kernel_rfl) (by rw [Opt.size]; kernel_rfl) (by kernel_rfl) ?_; rw [World.setRow_alloc_new]; replace H := H.add o1 OK1.out; replace H2 := H2.below ((Below.refl _ _).alloc (Nat.le_refl _) (.cells o1.cells 60)); replace BB := BB.alloc BB.size (.cells o1.cells 60)))
        try simp only [Act.put, List.setIfInBounds_toArray, List.set_cons_zero, List.set_cons_succ]
        generalize w1.alloc _ = wx1 at *
        generalize w1.heap.size = B1 at *
        go_upto_region 10 with (first | (refine wpList_load_row rfl 65 _ rfl (w.heap.size + 1) rfl 65 _ (0, 0) _ (H2 ((w.heap.size + 1), d2) (by simp)).1 Try.underlying65 rfl (by rw [Cfg.size]; kernel_rfl) ?_) | (go_at_call 8; refine (build8c _ d2 (H2 ((w.heap.size + 1), d2) (by simp)).2 (by have := HLK2.out.2.2.2.2.2.2.2.1; have := HL2.out; omega)).mono ?_; rintro e w1 ⟨o2, rfl, hof2, ok2, hb1⟩; replace H := H.below hb1; replace H2 := H2.below hb1; replace BB := BB.trans (hb1.mono BB.size); have OK2 := Lib.hid ok2; clear hb1 ok2 hof2) | (refine Go.Great.wpList_allocTo rfl _ rfl (.pointer (some ⟨_, 0, none⟩)) (.cells oz 60) (alloc60_run _ _ rfl _) ?_) | (refine wpList_store_row rfl 60 _ _ rfl _ o2.cells rfl rfl 60 oz (heap_alloc_new _ _) (by rw [Opt.size]; kernel_rfl) (by rw [Opt.size]; kernel_rfl) (by kernel_rfl) ?_; rw [World.setRow_alloc_new]; replace H := H.add o2 OK2.out; replace H2 := H2.below ((Below.refl _ _).alloc (Nat.le_refl _) (.cells o2.cells 60)); replace BB := BB.alloc BB.size (.cells o2.cells 60)))
        try simp only [Act.put, List.setIfInBounds_toArray, List.set_cons_zero, List.set_cons_succ]
        generalize w1.alloc _ = wx2 at *
        generalize w1.heap.size = B2 at *
        go_upto_region 11 with (first | (refine wpList_load_row rfl 65 _ rfl (w.heap.size + 1 + 1) rfl 65 _ (0, 0) _ (H2 ((w.heap.size + 1 + 1), d3) (by simp)).1 Try.underlying65 rfl (by rw [Cfg.size]; kernel_rfl) ?_) | (go_at_call 8; refine (build8c _ d3 (H2 ((w.heap.size + 1 + 1), d3) (by simp)).2 (by have := HLK3.out.2.2.2.2.2.2.2.1; have := HL3.out; omega)).mono ?_; rintro e w1 ⟨o3, rfl, hof3, ok3, hb1⟩; replace H := H.below hb1; replace H2 := H2.below hb1; replace BB := BB.trans (hb1.mono BB.size); have OK3 := Lib.hid ok3; clear hb1 ok3 hof3) | (refine Go.Great.wpList_allocTo rfl _ rfl (.pointer (some ⟨_, 0, none⟩)) (.cells oz 60) (alloc60_run _ _ rfl _) ?_) | (refine wpList_store_row rfl 60 _ _ rfl _ o3.cells rfl rfl 60 oz (heap_alloc_new _ _) (by rw [Opt.size]; kernel_rfl) (by rw [Opt.size]; kernel_rfl) (by kernel_rfl) ?_; rw [World.setRow_alloc_new]; replace H := H.add o3 OK3.out; replace H2 := H2.below ((Below.refl _ _).alloc (Nat.le_refl _) (.cells o3.cells 60)); replace BB := BB.alloc BB.size (.cells o3.cells 60)))
        try simp only [Act.put, List.setIfInBounds_toArray, List.set_cons_zero, List.set_cons_succ]
        generalize w1.alloc _ = wx3 at *
        generalize w1.heap.size = B3 at *
        clear H2 HL1 HL2 HL3 HLK1 HLK2 HLK3 OK1 OK2 OK3
        refine reg_use (ops := ops6) (by kernel_rfl) ?_
        by_cases hab : o1.Same o2
        · refine region6 wx3 B1 B2 o1 o2 true rfl rfl rfl ⟨(H (B1, o1) (by simp)).1, (H (B1, o1) (by simp)).2⟩ ⟨(H (B2, o2) (by simp)).1, (H (B2, o2) (by simp)).2⟩ (iff_of_true rfl hab) ?_
          intro w4 hb4
          replace H := H.below hb4
          replace BB := BB.trans (hb4.mono BB.size)
          clear hb4
          try simp only [Act.put, List.setIfInBounds_toArray, List.set_cons_zero, List.set_cons_succ]
          go_upto_region 13 with (fail)
          by_cases hbc : o2.Same o3
          · refine wp_region_list ?_
            try simp only [Act.put, List.setIfInBounds_toArray, List.set_cons_zero, List.set_cons_succ]
            refine wpList_step (fun K hK => ?_)
            rw [if_pos (by kernel_rfl)]
            refine k_ld H _ rfl _ o1 (by simp) rfl (hK _ _ ?_)
            clear hK K
            simp only [Act.put, List.setIfInBounds_toArray, List.set_cons_zero, List.set_cons_succ]
            refine wpList_step (fun K hK => ?_)
            rw [if_pos (by kernel_rfl)]
            refine k_ld H _ rfl _ o2 (by simp) rfl (hK _ _ ?_)
            clear hK K
            simp only [Act.put, List.setIfInBounds_toArray, List.set_cons_zero, List.set_cons_succ]
            refine wpList_step (fun K hK => ?_)
            rw [if_pos (by kernel_rfl)]
            refine k_eq H o1 o2 (by simp) (by simp) true (iff_of_true rfl hab) (by kernel_rfl) fun w2 hb2 H2 => hK _ _ ?_
            clear hK K
            replace BB := BB.trans (hb2.mono BB.size)
            replace H := H2
            clear H2 hb2
            simp only [Act.put, List.setIfInBounds_toArray, List.set_cons_zero, List.set_cons_succ]
            refine wpList_step (fun K hK => ?_)
            rw [if_pos (by kernel_rfl)]
            refine k_val (v := .bool true) (by kernel_rfl) (hK _ _ ?_)
            clear hK K
            simp only [Act.put, List.setIfInBounds_toArray, List.set_cons_zero, List.set_cons_succ]
            refine wpList_step (fun K hK => ?_)
            rw [if_pos (by kernel_rfl)]
            refine k_ld H _ rfl _ o2 (by simp) rfl (hK _ _ ?_)
            clear hK K
            simp only [Act.put, List.setIfInBounds_toArray, List.set_cons_zero, List.set_cons_succ]
            refine wpList_step (fun K hK => ?_)
            rw [if_pos (by kernel_rfl)]
            refine k_ld H _ rfl _ o3 (by simp) rfl (hK _ _ ?_)
            clear hK K
            simp only [Act.put, List.setIfInBounds_toArray, List.set_cons_zero, List.set_cons_succ]
            refine wpList_step (fun K hK => ?_)
            rw [if_pos (by kernel_rfl)]
            refine k_eq H o2 o3 (by simp) (by simp) true (iff_of_true rfl hbc) (by kernel_rfl) fun w2 hb2 H2 => hK _ _ ?_
            clear hK K
            replace BB := BB.trans (hb2.mono BB.size)
            replace H := H2
            clear H2 hb2
            simp only [Act.put, List.setIfInBounds_toArray, List.set_cons_zero, List.set_cons_succ]
            refine wpList_step (fun K hK => ?_)
            rw [if_pos (by kernel_rfl)]
            refine k_val (v := .bool true) (by kernel_rfl) (hK _ _ ?_)
            clear hK K
            simp only [Act.put, List.setIfInBounds_toArray, List.set_cons_zero, List.set_cons_succ]
            refine wpList_step (fun K hK => ?_)
            rw [if_pos (by kernel_rfl)]
            refine k_val (v := .bool true) (by kernel_rfl) (hK _ _ ?_)
            clear hK K
            simp only [Act.put, List.setIfInBounds_toArray, List.set_cons_zero, List.set_cons_succ]
            refine wpList_step (fun K hK => ?_)
            rw [if_pos (by kernel_rfl)]
            refine k_ld H _ rfl _ o1 (by simp) rfl (hK _ _ ?_)
            clear hK K
            simp only [Act.put, List.setIfInBounds_toArray, List.set_cons_zero, List.set_cons_succ]
            refine wpList_step (fun K hK => ?_)
            rw [if_pos (by kernel_rfl)]
            refine k_ld H _ rfl _ o3 (by simp) rfl (hK _ _ ?_)
            clear hK K
            simp only [Act.put, List.setIfInBounds_toArray, List.set_cons_zero, List.set_cons_succ]
            refine wpList_step (fun K hK => ?_)
            rw [if_pos (by kernel_rfl)]
            refine k_eq H o1 o3 (by simp) (by simp) true (iff_of_true rfl (hab.trans hbc)) (by kernel_rfl) fun w2 hb2 H2 => hK _ _ ?_
            clear hK K
            replace BB := BB.trans (hb2.mono BB.size)
            replace H := H2
            clear H2 hb2
            simp only [Act.put, List.setIfInBounds_toArray, List.set_cons_zero, List.set_cons_succ]
            refine wpList_step (fun K hK => ?_)
            rw [if_pos (by kernel_rfl)]
            refine k_val (v := .bool false) (by kernel_rfl) (hK _ _ ?_)
            clear hK K
            simp only [Act.put, List.setIfInBounds_toArray, List.set_cons_zero, List.set_cons_succ]
            refine wpList_step (fun K hK => ?_)
            rw [if_pos (by kernel_rfl)]
            refine k_val (v := .bool false) (by kernel_rfl) (hK _ _ ?_)
            clear hK K
            simp only [Act.put, List.setIfInBounds_toArray, List.set_cons_zero, List.set_cons_succ]
            refine wpList_nil ?_
            go_wp2_with fail
            go_ret
            exact ⟨rfl, BB⟩
          · refine wp_region_list ?_
            try simp only [Act.put, List.setIfInBounds_toArray, List.set_cons_zero, List.set_cons_succ]
            refine wpList_step (fun K hK => ?_)
            rw [if_pos (by kernel_rfl)]
            refine k_ld H _ rfl _ o1 (by simp) rfl (hK _ _ ?_)
            clear hK K
            simp only [Act.put, List.setIfInBounds_toArray, List.set_cons_zero, List.set_cons_succ]
            refine wpList_step (fun K hK => ?_)
            rw [if_pos (by kernel_rfl)]
            refine k_ld H _ rfl _ o2 (by simp) rfl (hK _ _ ?_)
            clear hK K
            simp only [Act.put, List.setIfInBounds_toArray, List.set_cons_zero, List.set_cons_succ]
            refine wpList_step (fun K hK => ?_)
            rw [if_pos (by kernel_rfl)]
            refine k_eq H o1 o2 (by simp) (by simp) true (iff_of_true rfl hab) (by kernel_rfl) fun w2 hb2 H2 => hK _ _ ?_
            clear hK K
            replace BB := BB.trans (hb2.mono BB.size)
            replace H := H2
            clear H2 hb2
            simp only [Act.put, List.setIfInBounds_toArray, List.set_cons_zero, List.set_cons_succ]
            refine wpList_step (fun K hK => ?_)
            rw [if_pos (by kernel_rfl)]
            refine k_val (v := .bool true) (by kernel_rfl) (hK _ _ ?_)
            clear hK K
            simp only [Act.put, List.setIfInBounds_toArray, List.set_cons_zero, List.set_cons_succ]
            refine wpList_step (fun K hK => ?_)
            rw [if_pos (by kernel_rfl)]
            refine k_ld H _ rfl _ o2 (by simp) rfl (hK _ _ ?_)
            clear hK K
            simp only [Act.put, List.setIfInBounds_toArray, List.set_cons_zero, List.set_cons_succ]
            refine wpList_step (fun K hK => ?_)
            rw [if_pos (by kernel_rfl)]
            refine k_ld H _ rfl _ o3 (by simp) rfl (hK _ _ ?_)
            clear hK K
            simp only [Act.put, List.setIfInBounds_toArray, List.set_cons_zero, List.set_cons_succ]
            refine wpList_step (fun K hK => ?_)
            rw [if_pos (by kernel_rfl)]
            refine k_eq H o2 o3 (by simp) (by simp) false (iff_of_false Bool.false_ne_true hbc) (by kernel_rfl) fun w2 hb2 H2 => hK _ _ ?_
            clear hK K
            replace BB := BB.trans (hb2.mono BB.size)
            replace H := H2
            clear H2 hb2
            simp only [Act.put, List.setIfInBounds_toArray, List.set_cons_zero, List.set_cons_succ]
            refine wpList_step (fun K hK => ?_)
            rw [if_pos (by kernel_rfl)]
            refine k_val (v := .bool false) (by kernel_rfl) (hK _ _ ?_)
            clear hK K
            simp only [Act.put, List.setIfInBounds_toArray, List.set_cons_zero, List.set_cons_succ]
            refine wpList_step (fun K hK => ?_)
            rw [if_pos (by kernel_rfl)]
            refine k_val (v := .bool false) (by kernel_rfl) (hK _ _ ?_)
            clear hK K
            simp only [Act.put, List.setIfInBounds_toArray, List.set_cons_zero, List.set_cons_succ]
            refine ws_skip (by kernel_rfl) ?_
            simp only [Act.put, List.setIfInBounds_toArray, List.set_cons_zero, List.set_cons_succ]
            refine ws_skip (by kernel_rfl) ?_
            simp only [Act.put, List.setIfInBounds_toArray, List.set_cons_zero, List.set_cons_succ]
            refine ws_skip (by kernel_rfl) ?_
            simp only [Act.put, List.setIfInBounds_toArray, List.set_cons_zero, List.set_cons_succ]
            refine ws_skip (by kernel_rfl) ?_
            simp only [Act.put, List.setIfInBounds_toArray, List.set_cons_zero, List.set_cons_succ]
            refine wpList_step (fun K hK => ?_)
            rw [if_pos (by kernel_rfl)]
            refine k_val (v := .bool false) (by kernel_rfl) (hK _ _ ?_)
            clear hK K
            simp only [Act.put, List.setIfInBounds_toArray, List.set_cons_zero, List.set_cons_succ]
            refine wpList_nil ?_
            go_wp2_with fail
            go_ret
            exact ⟨rfl, BB⟩
        · refine region6 wx3 B1 B2 o1 o2 false rfl rfl rfl ⟨(H (B1, o1) (by simp)).1, (H (B1, o1) (by simp)).2⟩ ⟨(H (B2, o2) (by simp)).1, (H (B2, o2) (by simp)).2⟩ (iff_of_false Bool.false_ne_true hab) ?_
          intro w4 hb4
          replace H := H.below hb4
          replace BB := BB.trans (hb4.mono BB.size)
          clear hb4
          try simp only [Act.put, List.setIfInBounds_toArray, List.set_cons_zero, List.set_cons_succ]
          go_upto_region 13 with (fail)
          refine wp_region_list ?_
          try simp only [Act.put, List.setIfInBounds_toArray, List.set_cons_zero, List.set_cons_succ]
          refine wpList_step (fun K hK => ?_)
          rw [if_pos (by kernel_rfl)]
          refine k_ld H _ rfl _ o1 (by simp) rfl (hK _ _ ?_)
          clear hK K
          simp only [Act.put, List.setIfInBounds_toArray, List.set_cons_zero, List.set_cons_succ]
          refine wpList_step (fun K hK => ?_)
          rw [if_pos (by kernel_rfl)]
          refine k_ld H _ rfl _ o2 (by simp) rfl (hK _ _ ?_)
          clear hK K
          simp only [Act.put, List.setIfInBounds_toArray, List.set_cons_zero, List.set_cons_succ]
          refine wpList_step (fun K hK => ?_)
          rw [if_pos (by kernel_rfl)]
          refine k_eq H o1 o2 (by simp) (by simp) false (iff_of_false Bool.false_ne_true hab) (by kernel_rfl) fun w2 hb2 H2 => hK _ _ ?_
          clear hK K
          replace BB := BB.trans (hb2.mono BB.size)
          replace H := H2
          clear H2 hb2
          simp only [Act.put, List.setIfInBounds_toArray, List.set_cons_zero, List.set_cons_succ]
          refine wpList_step (fun K hK => ?_)
          rw [if_pos (by kernel_rfl)]
          refine k_val (v := .bool false) (by kernel_rfl) (hK _ _ ?_)
          clear hK K
          simp only [Act.put, List.setIfInBounds_toArray, List.set_cons_zero, List.set_cons_succ]
          refine ws_skip (by kernel_rfl) ?_
          simp only [Act.put, List.setIfInBounds_toArray, List.set_cons_zero, List.set_cons_succ]
          refine ws_skip (by kernel_rfl) ?_
          simp only [Act.put, List.setIfInBounds_toArray, List.set_cons_zero, List.set_cons_succ]
          refine ws_skip (by kernel_rfl) ?_
          simp only [Act.put, List.setIfInBounds_toArray, List.set_cons_zero, List.set_cons_succ]
          refine wpList_step (fun K hK => ?_)
          rw [if_pos (by kernel_rfl)]
          refine k_val (v := .bool false) (by kernel_rfl) (hK _ _ ?_)
          clear hK K
          simp only [Act.put, List.setIfInBounds_toArray, List.set_cons_zero, List.set_cons_succ]
          refine wpList_step (fun K hK => ?_)
          rw [if_pos (by kernel_rfl)]
          refine k_val (v := .bool false) (by kernel_rfl) (hK _ _ ?_)
          clear hK K
          simp only [Act.put, List.setIfInBounds_toArray, List.set_cons_zero, List.set_cons_succ]
          refine ws_skip (by kernel_rfl) ?_
          simp only [Act.put, List.setIfInBounds_toArray, List.set_cons_zero, List.set_cons_succ]
          refine ws_skip (by kernel_rfl) ?_
          simp only [Act.put, List.setIfInBounds_toArray, List.set_cons_zero, List.set_cons_succ]
          refine ws_skip (by kernel_rfl) ?_
          simp only [Act.put, List.setIfInBounds_toArray, List.set_cons_zero, List.set_cons_succ]
          refine ws_skip (by kernel_rfl) ?_
          simp only [Act.put, List.setIfInBounds_toArray, List.set_cons_zero, List.set_cons_succ]
          refine wpList_step (fun K hK => ?_)
          rw [if_pos (by kernel_rfl)]
          refine k_val (v := .bool false) (by kernel_rfl) (hK _ _ ?_)
          clear hK K
          simp only [Act.put, List.setIfInBounds_toArray, List.set_cons_zero, List.set_cons_succ]
          refine wpList_nil ?_
          go_wp2_with fail
          go_ret
          exact ⟨rfl, BB⟩
      · refine k_val (v := .bool true) (by rw [← hbg]; kernel_rfl) (hK _ _ ?_)
        clear hK K
        simp only [Act.put, List.setIfInBounds_toArray, List.set_cons_zero, List.set_cons_succ]
        clear hbg hk
        refine wpList_step (fun K hK => ?_)
        rw [if_pos (by kernel_rfl)]
        refine k_val (v := .bool true) (by kernel_rfl) (hK _ _ ?_)
        clear hK K
        simp only [Act.put, List.setIfInBounds_toArray, List.set_cons_zero, List.set_cons_succ]
        refine wpList_nil ?_
        go_wp2_with fail
        go_ret
        exact ⟨rfl, BB⟩
    · refine k_val (v := .bool true) (by rw [← hbg]; kernel_rfl) (hK _ _ ?_)
      clear hK K
      simp only [Act.put, List.setIfInBounds_toArray, List.set_cons_zero, List.set_cons_succ]
      clear hbg hk
      refine wpList_step (fun K hK => ?_)
      rw [if_pos (by kernel_rfl)]
      refine k_val (v := .bool true) (by kernel_rfl) (hK _ _ ?_)
      clear hK K
      simp only [Act.put, List.setIfInBounds_toArray, List.set_cons_zero, List.set_cons_succ]
      refine wpList_step (fun K hK => ?_)
      rw [if_pos (by kernel_rfl)]
      refine k_val (v := .bool true) (by kernel_rfl) (hK _ _ ?_)
      clear hK K
      simp only [Act.put, List.setIfInBounds_toArray, List.set_cons_zero, List.set_cons_succ]
      refine ws_skip (by kernel_rfl) ?_
      simp only [Act.put, List.setIfInBounds_toArray, List.set_cons_zero, List.set_cons_succ]
      refine ws_skip (by kernel_rfl) ?_
      simp only [Act.put, List.setIfInBounds_toArray, List.set_cons_zero, List.set_cons_succ]
      refine ws_skip (by kernel_rfl) ?_
      simp only [Act.put, List.setIfInBounds_toArray, List.set_cons_zero, List.set_cons_succ]
      refine wpList_step (fun K hK => ?_)
      rw [if_pos (by kernel_rfl)]
      refine k_val (v := .bool true) (by kernel_rfl) (hK _ _ ?_)
      clear hK K
      simp only [Act.put, List.setIfInBounds_toArray, List.set_cons_zero, List.set_cons_succ]
      refine wpList_nil ?_
      go_wp2_with fail
      go_ret
      exact ⟨rfl, BB⟩
  · refine k_val (v := .bool true) (by rw [← hbg]; kernel_rfl) (hK _ _ ?_)
    clear hK K
    simp only [Act.put, List.setIfInBounds_toArray, List.set_cons_zero, List.set_cons_succ]
    clear hbg hk
    refine wpList_step (fun K hK => ?_)
    rw [if_pos (by kernel_rfl)]
    refine k_val (v := .bool true) (by kernel_rfl) (hK _ _ ?_)
    clear hK K
    simp only [Act.put, List.setIfInBounds_toArray, List.set_cons_zero, List.set_cons_succ]
    refine ws_skip (by kernel_rfl) ?_
    simp only [Act.put, List.setIfInBounds_toArray, List.set_cons_zero, List.set_cons_succ]
    refine ws_skip (by kernel_rfl) ?_
    simp only [Act.put, List.setIfInBounds_toArray, List.set_cons_zero, List.set_cons_succ]
    refine ws_skip (by kernel_rfl) ?_
    simp only [Act.put, List.setIfInBounds_toArray, List.set_cons_zero, List.set_cons_succ]
    refine wpList_step (fun K hK => ?_)
    rw [if_pos (by kernel_rfl)]
    refine k_val (v := .bool true) (by kernel_rfl) (hK _ _ ?_)
    clear hK K
    simp only [Act.put, List.setIfInBounds_toArray, List.set_cons_zero, List.set_cons_succ]
    refine wpList_step (fun K hK => ?_)
    rw [if_pos (by kernel_rfl)]
    refine k_val (v := .bool true) (by kernel_rfl) (hK _ _ ?_)
    clear hK K
    simp only [Act.put, List.setIfInBounds_toArray, List.set_cons_zero, List.set_cons_succ]
    refine ws_skip (by kernel_rfl) ?_
    simp only [Act.put, List.setIfInBounds_toArray, List.set_cons_zero, List.set_cons_succ]
    refine ws_skip (by kernel_rfl) ?_
    simp only [Act.put, List.setIfInBounds_toArray, List.set_cons_zero, List.set_cons_succ]
    refine ws_skip (by kernel_rfl) ?_
    simp only [Act.put, List.setIfInBounds_toArray, List.set_cons_zero, List.set_cons_succ]
    refine wpList_step (fun K hK => ?_)
    rw [if_pos (by kernel_rfl)]
    refine k_val (v := .bool true) (by kernel_rfl) (hK _ _ ?_)
    clear hK K
    simp only [Act.put, List.setIfInBounds_toArray, List.set_cons_zero, List.set_cons_succ]
    refine wpList_nil ?_
    go_wp2_with fail
    go_ret
    exact ⟨rfl, BB⟩
end Go.Proofs.Ytbebfpmnekbldaa.op
