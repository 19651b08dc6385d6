/-
  Options: law 25.
-/
import Derived.Test.YtbebfpmnekbldaaOs
import Derived.Deep.CutBlock

namespace Go.Proofs.Ytbebfpmnekbldaa.op
open Go.ChangeShapes Go.WideShapes Go.ChangeAt Go.RowKit Go.Deep
set_option linter.unusedVariables false
set_option linter.unusedSimpArgs false
set_option maxRecDepth 100000
set_option maxHeartbeats 4000000
noncomputable def ops5 : Array Oper := (Try.f5.body.bind (regOps 12)).getD #[]
theorem size5 : ops5.size = 6 := by kernel_rfl
noncomputable def V5 (a b : Cfg) (got : Bool) (t : Opt × Opt) (i : Nat) : Value := if i = 1 then .agg t.1.cells else if i = 3 then .agg t.2.cells else [.agg a.arr, undef, .agg b.arr, undef, .bool got, .bool got].getD i undef
def W5 (w1 : World) (a b : Cfg) (t : Opt × Opt) (L : Array Bool) (w' : World) : Prop := Below w1.heap.size w1 w' ∧ (L.getD 1 false = true → a.of t.1 ∧ t.1.ok w') ∧ (L.getD 3 false = true → b.of t.2 ∧ t.2.ok w')
theorem W5.next {w1 w' w2 : World} {a b : Cfg} {t : Opt × Opt} {L : Array Bool} {i : Nat} (h : W5 w1 a b t L w') (hb : Below w'.heap.size w' w2) (h1 : i ≠ 1) (h3 : i ≠ 3) : W5 w1 a b t (L.setIfInBounds i true) w2 := by
  unfold W5
  rw [getD_set_other h1, getD_set_other h3]
  exact ⟨h.1.trans (hb.mono h.1.size), fun x => ⟨(h.2.1 x).1, (h.2.1 x).2.below hb⟩, fun x => ⟨(h.2.2 x).1, (h.2.2 x).2.below hb⟩⟩
theorem region5 {id : Nat} {a0 : Act} {Q : Exit → Act → World → Prop} (w1 : World) (A1 A2 : Nat) (a b : Cfg) (got : Bool) (hs : a0.tmps.size = 65) (h11 : a0.eval (.tmp 11) = .pointer (some ⟨A1, 0, none⟩)) (h12 : a0.eval (.tmp 12) = .pointer (some ⟨A2, 0, none⟩))
    (hA : w1.heap[A1]? = some (.cells a.arr 65 (0, 0)) ∧ a.ok w1) (hB : w1.heap[A2]? = some (.cells b.arr 65 (0, 0)) ∧ b.ok w1) (hla : a.ln ≤ 1048576) (hlb : b.ln ≤ 1048576) (hgot : ∀ o p, a.of o → b.of p → ((got = true) ↔ o.Same p))
    (hQ : ∀ (t : Opt × Opt) (w' : World), Below w1.heap.size w1 w' → Q .normal ((((((a0.put (some 38) (.agg a.arr)).put (some 39) (.agg t.1.cells)).put (some 40) (.agg b.arr)).put (some 41) (.agg t.2.cells)).put (some 42) (.bool got)).put (some 13) (.bool got)) w') :
    (Code.region id ops5 true).wp Try.prog Q a0 w1 := by
  refine wp_region_sl (Θ := Opt × Opt) (by kernel_rfl) (fun t => V5 a b got t) (fun t => W5 w1 a b t) (by kernel_rfl) (by rw [hs]; kernel_rfl) (zO, zO) ?_ ?_ ?_
  · have hf : ∀ j, (Array.replicate ops5.size false).getD j false = false := fun j => by
      rw [Array.getD_eq_getD_getElem?, Array.getElem?_replicate]
      split <;> rfl
    refine ⟨(Below.refl _ _).drew, ?_, ?_⟩ <;> (intro hx; rw [hf] at hx; cases hx)
  · intro i o t L ac w' ho hL hu hall hS hW
    have hi : i < 6 := by rw [← size5]; exact (Array.getElem?_eq_some_iff.1 ho).1
    have hLs : L.size = 6 := by rw [hL]; exact size5
    have uf := getD_false_of_unlisted hu
    have hA' := hA.2.below hW.1
    have hB' := hB.2.below hW.1
    have rcs : i = 0 ∨ i = 1 ∨ i = 2 ∨ i = 3 ∨ i = 4 ∨ i = 5 := by omega
    rcases rcs with rfl | rfl | rfl | rfl | rfl | rfl
    · have ho1 := at_op (q := Op.load 65 (Operand.tmp 11)) (by kernel_rfl) ho
      have hx : ac.eval (.tmp 11) = .pointer (some ⟨A1, 0, none⟩) := (hS.out (by kernel_rfl)).trans h11
      exact wp_load_row 65 _ ho1 A1 hx 65 a.arr (0, 0) _ ((hW.1.block A1 (lt_of_block hA.1)).trans hA.1) Try.underlying65 rfl (by rw [Cfg.size]; kernel_rfl) ⟨t, rfl, fun _ _ => rfl, hW.next (Below.refl _ _) (by omega) (by omega)⟩
    · have ho1 := at_op (q := Op.call { callee := Callee.value (Operand.func 8), args := #[Operand.tmp 38], argTypes := #[65] }) (by kernel_rfl) ho
      have hx : ac.eval (.tmp 38) = .agg a.arr := hS.arg (p := 0) (d := 38) ho hall (by kernel_rfl) (by kernel_rfl)
      have hrun : (execOp ac.eval o).run Try.prog w' = .ok (.enter 8 #[.agg a.arr]) w' := by
        unfold execOp
        simp only [ho1, List.map_toArray, List.map_cons, List.map_nil, hx]
        go_simp
        simpa [Act.eval] using hx
      refine k_call hrun (R := fun v w2 => ∃ op, v = .agg op.cells ∧ a.of op ∧ op.ok w2 ∧ Below w'.heap.size w' w2) ((build8c w' a hA' hla).mono fun e w2 ⟨op, h1, h2⟩ => ⟨_, h1, op, rfl, h2⟩) ?_
      rintro v w2 ⟨op, rfl, hof, hok, hb⟩
      refine ⟨(op, t.2), rfl, fun j hj => ?_, ?_⟩
      · have hj1 : j ≠ 1 := fun h => by rw [h, uf] at hj; cases hj
        unfold V5
        rw [if_neg hj1, if_neg hj1]
      · refine ⟨hW.1.trans (hb.mono hW.1.size), fun _ => ⟨hof, hok⟩, fun x => ?_⟩
        rw [getD_set_other (by omega)] at x
        exact ⟨(hW.2.2 x).1, (hW.2.2 x).2.below hb⟩
    · have ho1 := at_op (q := Op.load 65 (Operand.tmp 12)) (by kernel_rfl) ho
      have hx : ac.eval (.tmp 12) = .pointer (some ⟨A2, 0, none⟩) := (hS.out (by kernel_rfl)).trans h12
      exact wp_load_row 65 _ ho1 A2 hx 65 b.arr (0, 0) _ ((hW.1.block A2 (lt_of_block hB.1)).trans hB.1) Try.underlying65 rfl (by rw [Cfg.size]; kernel_rfl) ⟨t, rfl, fun _ _ => rfl, hW.next (Below.refl _ _) (by omega) (by omega)⟩
    · have ho1 := at_op (q := Op.call { callee := Callee.value (Operand.func 8), args := #[Operand.tmp 40], argTypes := #[65] }) (by kernel_rfl) ho
      have hx : ac.eval (.tmp 40) = .agg b.arr := hS.arg (p := 2) (d := 40) ho hall (by kernel_rfl) (by kernel_rfl)
      have hrun : (execOp ac.eval o).run Try.prog w' = .ok (.enter 8 #[.agg b.arr]) w' := by
        unfold execOp
        simp only [ho1, List.map_toArray, List.map_cons, List.map_nil, hx]
        go_simp
        simpa [Act.eval] using hx
      refine k_call hrun (R := fun v w2 => ∃ op, v = .agg op.cells ∧ b.of op ∧ op.ok w2 ∧ Below w'.heap.size w' w2) ((build8c w' b hB' hlb).mono fun e w2 ⟨op, h1, h2⟩ => ⟨_, h1, op, rfl, h2⟩) ?_
      rintro v w2 ⟨op, rfl, hof, hok, hb⟩
      refine ⟨(t.1, op), rfl, fun j hj => ?_, ?_⟩
      · have hj1 : j ≠ 3 := fun h => by rw [h, uf] at hj; cases hj
        unfold V5
        rw [if_neg hj1, if_neg hj1]
      · refine ⟨hW.1.trans (hb.mono hW.1.size), fun x => ?_, fun _ => ⟨hof, hok⟩⟩
        rw [getD_set_other (by omega)] at x
        exact ⟨(hW.2.1 x).1, (hW.2.1 x).2.below hb⟩
    · have ho1 := at_op (q := Op.call { callee := Callee.value (Operand.func 9), args := #[Operand.tmp 39, Operand.tmp 41], argTypes := #[60, 60] }) (by kernel_rfl) ho
      have hx : ac.eval (.tmp 39) = .agg t.1.cells := hS.arg (p := 1) (d := 39) ho hall (by kernel_rfl) (by kernel_rfl)
      have hy : ac.eval (.tmp 41) = .agg t.2.cells := hS.arg (p := 3) (d := 41) ho hall (by kernel_rfl) (by kernel_rfl)
      have k1 := hW.2.1 (dep_listed (p := 1) (by kernel_rfl) ho hall)
      have k3 := hW.2.2 (dep_listed (p := 3) (by kernel_rfl) ho hall)
      have hrun : (execOp ac.eval o).run Try.prog w' = .ok (.enter 9 #[.agg t.1.cells, .agg t.2.cells]) w' := by
        unfold execOp
        simp only [ho1, List.map_toArray, List.map_cons, List.map_nil, hx, hy]
        go_simp
        exact ⟨by simpa [Act.eval] using hx, by simpa [Act.eval] using hy⟩
      refine k_call hrun (R := fun v w2 => v = .bool got ∧ Below w'.heap.size w' w2) ((eq9 w' t.1 t.2 got (hgot _ _ k1.1 k3.1) k1.2 k3.2).mono fun e w2 ⟨h1, h2⟩ => ⟨_, h1, rfl, h2⟩) ?_
      rintro v w2 ⟨rfl, hb⟩
      exact ⟨t, rfl, fun _ _ => rfl, hW.next hb (by omega) (by omega)⟩
    · have ho1 := at_op (q := Op.assign (Operand.tmp 42)) (by kernel_rfl) ho
      have hx : ac.eval (.tmp 42) = .bool got := hS.arg (p := 4) (d := 42) ho hall (by kernel_rfl) (by kernel_rfl)
      refine pure_op (t := t) (V := fun t => V5 a b got t) (v := .bool got) ?_ rfl (hW.next (Below.refl _ _) (by omega) (by omega))
      unfold execOp
      simp only [ho1, hx]
      go_simp
  · intro t L ac w' hall hS hW
    have hfin := hS.final (by rw [hs]; kernel_rfl) hall
    have he : finAct ops5 (V5 a b got t) a0 6 = (((((a0.put (some 38) (.agg a.arr)).put (some 39) (.agg t.1.cells)).put (some 40) (.agg b.arr)).put (some 41) (.agg t.2.cells)).put (some 42) (.bool got)).put (some 13) (.bool got) := by kernel_rfl
    rw [size5, he] at hfin
    rw [hfin]
    exact hQ t w' hW.1
theorem walk25 (w : World) (c : Cfg) (m1 m2 r1 r2 : Bool) (hc : c.ok w) : Calls Try.prog 5 #[.agg c.arr, .bool m1, .bool m2, .bool r1, .bool r2] w fun e w' => e = .returned (.bool true) ∧ Below w.heap.size w w' := by
  have H2 : Held2 (w.alloc (.cells c.arr 65)) [(w.heap.size, c)] := Held2.add (fun p hp => by cases hp) c hc
  have BB : Below w.heap.size w (w.alloc (.cells c.arr 65)) := (Below.refl _ _).alloc (Nat.le_refl _) _
  clear hc
  go_enter Try.func5, Try.ntmps5
  go_upto_region 5 with (first | (refine wpList_load_row rfl 65 _ rfl w.heap.size rfl 65 _ (0, 0) _ (H2 (w.heap.size, c) (by simp)).1 Try.underlying65 rfl (by rw [Cfg.size]; kernel_rfl) ?_) | (go_at_call 13; refine (bytes13c _ c (H2 (w.heap.size, c) (by simp)).2 m1 m2 r1 r2).mono ?_; rintro e w1 ⟨⟨b, rfl⟩, hb1⟩; replace H2 := H2.below hb1; replace BB := BB.trans (hb1.mono BB.size); clear hb1; cases b) | (go_at_call 11; refine (count11c _ c (H2 (w.heap.size, c) (by simp)).2).mono ?_; rintro e w1 ⟨⟨k, rfl, hk⟩, hb1⟩; replace H2 := H2.below hb1; replace BB := BB.trans (hb1.mono BB.size); clear hb1; by_cases hcc : k ≤ 1048576; rotate_left; (have t1 : decide ((1048576 : Int) < k) = true := (by simp; omega); clear hk hcc); rotate_left; (have HL := Lib.hid (hk hcc); have t1 : decide ((1048576 : Int) < k) = false := (by simpa using hcc); clear hk hcc)))
  · go_ret
    exact ⟨rfl, BB⟩
  rotate_left
  · go_ret
    exact ⟨rfl, BB⟩
  clear t1
  go_upto_region 6 with (first | (refine wpList_load_row rfl 65 _ rfl w.heap.size rfl 65 _ (0, 0) _ (H2 (w.heap.size, c) (by simp)).1 Try.underlying65 rfl (by rw [Cfg.size]; kernel_rfl) ?_) | (go_at_call 12; refine (clone12c _ c (H2 (w.heap.size, c) (by simp)).2 (by have := HL.out; omega)).mono ?_; rintro e w1 ⟨cc, rfl, hlk, hok, hb1, hnw⟩; have HOK := Lib.hid hok; have HLK := Lib.hid hlk; have HNW := Lib.hid (Cfg.off_old hnw (lt_of_block (H2 (w.heap.size, c) (by simp)).1)); skip; have HG := Lib.hid (H2 (w.heap.size, c) (by simp)).1; replace H2 := H2.below hb1; have HG1 := Lib.hid (H2 (w.heap.size, c) (by simp)).1; replace BB := BB.trans (hb1.mono BB.size); clear hb1 hok hlk hnw HG) | (refine wpList_store_row rfl 65 _ _ rfl w.heap.size cc.arr rfl rfl 65 _ HG1.out (by rw [Cfg.size]; kernel_rfl) rfl (by kernel_rfl) ?_))
  replace H2 := H2.put HOK.out HNW.out (fun p hp => by cases hp)
  replace BB := below_setRow BB (Nat.le_refl _) cc.arr
  have HLC := Lib.hid HLK.out
  replace HL : Hid (cc.ln ≤ 65536) := Lib.hid (by rw [HLC.out.2.2.2.2.2.2.2.1]; exact HL.out)
  clear HOK HLK HNW HG1
  generalize w1.setRow _ _ = w0 at *
  simp only [Act.put]
  go_upto_region 7 with (first | (refine wpList_load_row rfl 65 _ rfl w.heap.size rfl 65 _ (0, 0) _ (H2 (w.heap.size, cc) (by simp)).1 Try.underlying65 rfl (by rw [Cfg.size]; kernel_rfl) ?_) | (go_at_call 12; refine (clone12c _ cc (H2 (w.heap.size, cc) (by simp)).2 (by have := HL.out; omega)).mono ?_; rintro e w1 ⟨ca, rfl, hlk, hok, hb1, hnw⟩; have HOK := Lib.hid hok; have HLK := Lib.hid hlk; have HNW := Lib.hid (Cfg.off_old hnw (lt_of_block (H2 (w.heap.size, cc) (by simp)).1)); have HFcc := Lib.hid (show cc.off _ from ((H2 (w.heap.size, cc) (by simp)).2.below hb1).off_new); have HBA := Lib.hid (lt_of_block ((hb1.block _ (lt_of_block (H2 (w.heap.size, cc) (by simp)).1)).trans (H2 (w.heap.size, cc) (by simp)).1)); have HG := Lib.hid (H2 (w.heap.size, cc) (by simp)).1; replace H2 := H2.below hb1; have HG1 := Lib.hid (H2 (w.heap.size, cc) (by simp)).1; replace BB := BB.trans (hb1.mono BB.size); clear hb1 hok hlk hnw HG) | (refine wpList_store_row rfl 65 _ _ rfl _ ca.arr rfl rfl 65 _ (heap_alloc_new _ _) (by rw [Cfg.size]; kernel_rfl) rfl (by kernel_rfl) ?_; rw [World.setRow_alloc_new]))
  replace H2 := H2.add ca HOK.out
  have HFca := Lib.hid HOK.out.off_new
  have BS := Lib.hid BB.size
  replace BB := BB.alloc BB.size (.cells ca.arr 65)
  generalize w1.alloc _ = w2 at *
  generalize w1.heap.size = A1 at *
  have k5 : w2.cell? ⟨A1, 5, none⟩ = some (.bool ca.mn) := (cell_of_row _ _ 5 _ _ _ (H2 (A1, ca) (by simp)).1).trans rfl
  have k6 : w2.cell? ⟨A1, 6, none⟩ = some (.bool ca.rn) := (cell_of_row _ _ 6 _ _ _ (H2 (A1, ca) (by simp)).1).trans rfl
  have f5 : w2.frozen? ⟨A1, 5, none⟩ = false := frozen_of_row _ _ 5 _ _ (H2 (A1, ca) (by simp)).1
  have f6 : w2.frozen? ⟨A1, 6, none⟩ = false := frozen_of_row _ _ 6 _ _ (H2 (A1, ca) (by simp)).1
  go_upto_region 9 with (fail)
  clear k5 k6 f5 f6
  replace H2 := H2.set2 m1 r1 HFca.out (by
    intro p hp
    simp only [List.mem_cons, List.not_mem_nil, or_false] at hp
    rcases hp with rfl
    all_goals first | exact ⟨by have := HBA.out; omega, HFcc.out⟩)
  replace BB := (BB.setCell (show w.heap.size ≤ (⟨A1, 5, none⟩ : Addr).block from BS.out) (.bool m1)).setCell (show w.heap.size ≤ (⟨A1, 6, none⟩ : Addr).block from BS.out) (.bool r1)
  generalize (w2.setCell _ _).setCell _ _ = w3 at *
  obtain ⟨a, ha⟩ : ∃ x, x = ({ ca with mn := m1, rn := r1 } : Cfg) := ⟨_, rfl⟩
  rw [← ha] at H2
  have HEa := Lib.hid ha
  have HKa := Lib.hid HLK.out
  clear ha HOK HLK HNW HG1 BS HFca HFcc HBA
  go_upto_region 10 with (first | (refine wpList_load_row rfl 65 _ rfl w.heap.size rfl 65 _ (0, 0) _ (H2 (w.heap.size, cc) (by simp)).1 Try.underlying65 rfl (by rw [Cfg.size]; kernel_rfl) ?_) | (go_at_call 12; refine (clone12c _ cc (H2 (w.heap.size, cc) (by simp)).2 (by have := HL.out; omega)).mono ?_; rintro e w1 ⟨cb, rfl, hlk, hok, hb1, hnw⟩; have HOK := Lib.hid hok; have HLK := Lib.hid hlk; have HNW := Lib.hid (Cfg.off_old hnw (lt_of_block (H2 (w.heap.size, cc) (by simp)).1)); have HFa := Lib.hid (show a.off _ from ((H2 (A1, a) (by simp)).2.below hb1).off_new); have HFcc := Lib.hid (show cc.off _ from ((H2 (w.heap.size, cc) (by simp)).2.below hb1).off_new); have HBA1 := Lib.hid (lt_of_block ((hb1.block _ (lt_of_block (H2 (A1, a) (by simp)).1)).trans (H2 (A1, a) (by simp)).1)); have HBA := Lib.hid (lt_of_block ((hb1.block _ (lt_of_block (H2 (w.heap.size, cc) (by simp)).1)).trans (H2 (w.heap.size, cc) (by simp)).1)); have HG := Lib.hid (H2 (w.heap.size, cc) (by simp)).1; replace H2 := H2.below hb1; have HG1 := Lib.hid (H2 (w.heap.size, cc) (by simp)).1; replace BB := BB.trans (hb1.mono BB.size); clear hb1 hok hlk hnw HG) | (refine wpList_store_row rfl 65 _ _ rfl _ cb.arr rfl rfl 65 _ (heap_alloc_new _ _) (by rw [Cfg.size]; kernel_rfl) rfl (by kernel_rfl) ?_; rw [World.setRow_alloc_new]))
  replace H2 := H2.add cb HOK.out
  have HFcb := Lib.hid HOK.out.off_new
  have BS := Lib.hid BB.size
  replace BB := BB.alloc BB.size (.cells cb.arr 65)
  generalize w1.alloc _ = w2 at *
  generalize w1.heap.size = A2 at *
  have k5 : w2.cell? ⟨A2, 5, none⟩ = some (.bool cb.mn) := (cell_of_row _ _ 5 _ _ _ (H2 (A2, cb) (by simp)).1).trans rfl
  have k6 : w2.cell? ⟨A2, 6, none⟩ = some (.bool cb.rn) := (cell_of_row _ _ 6 _ _ _ (H2 (A2, cb) (by simp)).1).trans rfl
  have f5 : w2.frozen? ⟨A2, 5, none⟩ = false := frozen_of_row _ _ 5 _ _ (H2 (A2, cb) (by simp)).1
  have f6 : w2.frozen? ⟨A2, 6, none⟩ = false := frozen_of_row _ _ 6 _ _ (H2 (A2, cb) (by simp)).1
  go_upto_region 12 with (fail)
  clear k5 k6 f5 f6
  replace H2 := H2.set2 m2 r2 HFcb.out (by
    intro p hp
    simp only [List.mem_cons, List.not_mem_nil, or_false] at hp
    rcases hp with rfl | rfl
    all_goals first | exact ⟨by have := HBA1.out; omega, HFa.out⟩ | exact ⟨by have := HBA.out; omega, HFcc.out⟩)
  replace BB := (BB.setCell (show w.heap.size ≤ (⟨A2, 5, none⟩ : Addr).block from BS.out) (.bool m2)).setCell (show w.heap.size ≤ (⟨A2, 6, none⟩ : Addr).block from BS.out) (.bool r2)
  generalize (w2.setCell _ _).setCell _ _ = w3 at *
  obtain ⟨b, hb⟩ : ∃ x, x = ({ cb with mn := m2, rn := r2 } : Cfg) := ⟨_, rfl⟩
  rw [← hb] at H2
  have HEb := Lib.hid hb
  have HKb := Lib.hid HLK.out
  clear hb HOK HLK HNW HG1 BS HFcb HFa HFcc HBA1 HBA
  try simp only [Act.put, List.setIfInBounds_toArray, List.set_cons_zero, List.set_cons_succ]
  refine reg_use (ops := ops5) (by kernel_rfl) ?_
  refine region5 w3 A1 A2 a b (m1 == m2 && r1 == r2) rfl rfl rfl (H2 (A1, a) (by simp)) (H2 (A2, b) (by simp)) (by rw [HEa.out]; have := HKa.out.2.2.2.2.2.2.2.1; have := HL.out; simp only; omega) (by rw [HEb.out]; have := HKb.out.2.2.2.2.2.2.2.1; have := HL.out; simp only; omega) ?_ ?_
  · intro o p ho hp
    have ea := HKa.out
    have eb := HKb.out
    have h1 := same_of (c := a) (d := b) (o := o) (p := p) (by rw [HEa.out, HEb.out]; exact eb.1.trans ea.1.symm) (by rw [HEa.out, HEb.out]; exact eb.2.1.trans ea.2.1.symm) (by rw [HEa.out, HEb.out]; exact eb.2.2.1.trans ea.2.2.1.symm) (by rw [HEa.out, HEb.out]; exact eb.2.2.2.1.trans ea.2.2.2.1.symm) (by rw [HEa.out, HEb.out]; exact eb.2.2.2.2.1.trans ea.2.2.2.2.1.symm) (by rw [HEa.out, HEb.out]; exact eb.2.2.2.2.2.2.2.1.trans ea.2.2.2.2.2.2.2.1.symm) (by rw [HEa.out, HEb.out]; exact eb.2.2.2.2.2.2.2.2.trans ea.2.2.2.2.2.2.2.2.symm) ho hp
    rw [h1, HEa.out, HEb.out]
    simp
  intro t w4 hb4
  replace BB := BB.trans (hb4.mono BB.size)
  clear hb4 H2 HEa HEb HKa HKb HL HLC
  try simp only [Act.put, List.setIfInBounds_toArray, List.set_cons_zero, List.set_cons_succ]
  cases m1 <;> cases m2 <;> cases r1 <;> cases r2
  all_goals
    go_wp2_with (go_at_call 14; refine (same14 _ _ _).mono ?_; rintro e w5 ⟨rfl, hb5⟩; replace BB := BB.trans (hb5.mono BB.size); clear hb5)
    go_ret
    exact ⟨rfl, BB⟩
end Go.Proofs.Ytbebfpmnekbldaa.op
