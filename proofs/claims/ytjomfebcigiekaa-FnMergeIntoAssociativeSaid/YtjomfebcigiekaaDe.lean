/-
  Deferred errors: two are merged.
-/
import Derived.Test.YtjomfebcigiekaaDd

namespace Go.Proofs.Ytjomfebcigiekaa.de
open Go.ChangeShapes Go.WideShapes Go.ChangeAt Go.RowKit Go.Deep
set_option linter.unusedVariables false
set_option linter.unusedSimpArgs false
set_option linter.unnecessarySimpa false
set_option maxRecDepth 100000
set_option maxHeartbeats 1000000
noncomputable def ops7 : Array Oper := (Try.f7.body.bind (regOps 4)).getD #[]
theorem size7 : ops7.size = 6 := by kernel_rfl
structure T7 where
  a : Option Addr
  c : Nat
  b : Option Addr
  d : Nat
noncomputable def V7 (p q : Nat → Int) (xa xb : Option Addr) (n ca m cb : Nat) (t : T7) (i : Nat) : Value := if i = 1 then .agg (dA p t.a n t.c) else if i = 3 then .agg (dA q t.b m t.d) else [.agg (dA p xa n ca), undef, .agg (dA q xb m cb), undef, undef, undef].getD i undef
def W7 (w0 w4 : World) (F T R1 R2 : Nat) (p q za zb : Nat → Int) (xa xb : Option Addr) (n ca m cb : Nat) (t : T7) (L : Array Bool) (w' : World) : Prop :=
  (∀ k, k < w4.heap.size → k ≠ R1 → k ≠ R2 → w'.heap[k]? = w4.heap[k]?) ∧ Below w0.heap.size w0 w' ∧ w4.heap.size ≤ w'.heap.size ∧ (L.getD 1 false = true → OwnS w' 33 t.a n t.c za w4.heap.size) ∧ (L.getD 3 false = true → OwnS w' 33 t.b m t.d zb w4.heap.size) ∧
  w'.heap[R1]? = some (.cells (if L.getD 4 false = true then dA p t.a n t.c else #[.int .i32 0, .int .i32 0, .int .i32 0, .int .i32 0, .int .i32 0, .int .i32 0, .slice none 0 0]) 36 (0, 0)) ∧ w'.heap[R2]? = some (.cells (if L.getD 5 false = true then dA q t.b m t.d else #[.int .i32 0, .int .i32 0, .int .i32 0, .int .i32 0, .int .i32 0, .int .i32 0, .slice none 0 0]) 36 (0, 0)) ∧ (L.getD 4 false = true → L.getD 1 false = true ∧ L.getD 3 false = true) ∧ (L.getD 5 false = true → L.getD 1 false = true ∧ L.getD 3 false = true)
section
variable {w0 w4 : World} {F T R1 R2 : Nat} {p q za zb : Nat → Int} {xa xb : Option Addr} {n ca m cb : Nat} {t : T7} {L : Array Bool} {w' w2 : World} {i : Nat}
theorem W7.next (h : W7 w0 w4 F T R1 R2 p q za zb xa xb n ca m cb t L w') (h1 : i ≠ 1) (h3 : i ≠ 3) (h4 : i ≠ 4) (h5 : i ≠ 5) (hb : Below w'.heap.size w' w2) : W7 w0 w4 F T R1 R2 p q za zb xa xb n ca m cb t (L.setIfInBounds i true) w2 := by
  unfold W7
  rw [getD_set_other h1, getD_set_other h3, getD_set_other h4, getD_set_other h5]
  obtain ⟨a1, a2, a3, a4, a5, a6, a7, a8, a9⟩ := h
  exact ⟨fun k hk x y => (hb.block k (by omega)).trans (a1 k hk x y), a2.trans (hb.mono a2.size), by have := hb.size; omega, fun x => (a4 x).below hb, fun x => (a5 x).below hb, (hb.block _ (lt_of_block a6)).trans a6, (hb.block _ (lt_of_block a7)).trans a7, a8, a9⟩
theorem OwnS.base {w : World} {E : TypeId} {a : Option Addr} {n c : Nat} {z : Nat → Int} {B B' : Nat} (h : OwnS w E a n c z B) (hB : B' ≤ B) : OwnS w E a n c z B' := by
  rcases h with h | ⟨g, h1, h2, h3, h4⟩
  · exact .inl h
  · exact .inr ⟨g, h1, h2, by omega, h4⟩
theorem OwnS.setRow {w : World} {E : TypeId} {a : Option Addr} {n c : Nat} {z : Nat → Int} {B R : Nat} {cs : Array Value} (h : OwnS w E a n c z B) (hR : R < B) : OwnS (w.setRow R cs) E a n c z B := by
  rcases h with h | ⟨g, h1, h2, h3, h4⟩
  · exact .inl h
  · exact .inr ⟨g, h1, h2, h3, h4.of_block (setRow_other _ _ _ _ (by omega))⟩
theorem W7.call1 {a' : Option Addr} {c' : Nat} (h : W7 w0 w4 F T R1 R2 p q za zb xa xb n ca m cb t L w') (hs : L.size = 6) (hu : L.getD 1 false = false) (hb : Below w'.heap.size w' w2) (ho : OwnS w2 33 a' n c' za w'.heap.size) : W7 w0 w4 F T R1 R2 p q za zb xa xb n ca m cb ⟨a', c', t.b, t.d⟩ (L.setIfInBounds 1 true) w2 := by
  unfold W7
  rw [getD_set_same (by omega), getD_set_other (i := 1) (j := 3) (by omega), getD_set_other (i := 1) (j := 4) (by omega), getD_set_other (i := 1) (j := 5) (by omega)]
  obtain ⟨a1, a2, a3, a4, a5, a6, a7, a8, a9⟩ := h
  have h4 : L.getD 4 false = false := by
    cases e : L.getD 4 false
    · rfl
    · have := (a8 e).1; rw [hu] at this; cases this
  have h5 : L.getD 5 false = false := by
    cases e : L.getD 5 false
    · rfl
    · have := (a9 e).1; rw [hu] at this; cases this
  rw [h4, if_neg Bool.false_ne_true] at a6 ⊢
  exact ⟨fun k hk x y => (hb.block k (by omega)).trans (a1 k hk x y), a2.trans (hb.mono a2.size), by have := hb.size; omega, fun _ => ho.base a3, fun x => (a5 x).below hb, (hb.block _ (lt_of_block a6)).trans a6, (hb.block _ (lt_of_block a7)).trans a7, (fun x => by cases x), (fun x => by rw [h5] at x; cases x)⟩
theorem W7.call2 {a' : Option Addr} {c' : Nat} (h : W7 w0 w4 F T R1 R2 p q za zb xa xb n ca m cb t L w') (hs : L.size = 6) (hu : L.getD 3 false = false) (hb : Below w'.heap.size w' w2) (ho : OwnS w2 33 a' m c' zb w'.heap.size) : W7 w0 w4 F T R1 R2 p q za zb xa xb n ca m cb ⟨t.a, t.c, a', c'⟩ (L.setIfInBounds 3 true) w2 := by
  unfold W7
  rw [getD_set_same (by omega), getD_set_other (i := 3) (j := 1) (by omega), getD_set_other (i := 3) (j := 4) (by omega), getD_set_other (i := 3) (j := 5) (by omega)]
  obtain ⟨a1, a2, a3, a4, a5, a6, a7, a8, a9⟩ := h
  have h4 : L.getD 4 false = false := by
    cases e : L.getD 4 false
    · rfl
    · have := (a8 e).2; rw [hu] at this; cases this
  have h5 : L.getD 5 false = false := by
    cases e : L.getD 5 false
    · rfl
    · have := (a9 e).2; rw [hu] at this; cases this
  rw [h5, if_neg Bool.false_ne_true] at a7 ⊢
  exact ⟨fun k hk x y => (hb.block k (by omega)).trans (a1 k hk x y), a2.trans (hb.mono a2.size), by have := hb.size; omega, fun x => (a4 x).below hb, fun _ => ho.base a3, (hb.block _ (lt_of_block a6)).trans a6, (hb.block _ (lt_of_block a7)).trans a7, (fun x => by rw [h4] at x; cases x), (fun x => by cases x)⟩
theorem W7.row {x : Option Addr} {k : Nat} {V : Nat → Value} (h : W7 w0 w4 F T R1 R2 p q za zb xa xb n ca m cb t L w') (hr : Row w4 x k V) (hx : ∀ y, x = some y → y.block ≠ R1 ∧ y.block ≠ R2) : Row w' x k V := by
  intro h0
  obtain ⟨b, off, e, hc⟩ := hr h0
  have hlt : b < w4.heap.size := block_lt_of_cell (a := ⟨b, off + 0, none⟩) (hc 0 h0)
  exact ⟨b, off, e, fun i hi => (World.cell?_of_block (a := ⟨b, off + i, none⟩) (h.1 b hlt (hx _ e).1 (hx _ e).2)).trans (hc i hi)⟩
end
theorem reg7 {id : Nat} {a00 : Act} {Q : Exit → Act → World → Prop} (w0 w4 : World) (F T R1 R2 : Nat) (p q za zb : Nat → Int) (xa xb : Option Addr) (n ca m cb : Nat) (hs : a00.tmps.size = 17)
    (h6 : a00.eval (.tmp 6) = .pointer (some ⟨F, 0, none⟩)) (h7 : a00.eval (.tmp 7) = .pointer (some ⟨T, 0, none⟩)) (h4 : a00.eval (.tmp 4) = .pointer (some ⟨R1, 0, none⟩)) (h5 : a00.eval (.tmp 5) = .pointer (some ⟨R2, 0, none⟩))
    (hW0 : Below w0.heap.size w0 w4) (hF : w4.heap[F]? = some (.cells (dA p xa n ca) 47 (0, 0))) (hT : w4.heap[T]? = some (.cells (dA q xb m cb) 47 (0, 0))) (hR1 : w4.heap[R1]? = some (.cells #[.int .i32 0, .int .i32 0, .int .i32 0, .int .i32 0, .int .i32 0, .int .i32 0, .slice none 0 0] 36 (0, 0))) (hR2 : w4.heap[R2]? = some (.cells #[.int .i32 0, .int .i32 0, .int .i32 0, .int .i32 0, .int .i32 0, .int .i32 0, .slice none 0 0] 36 (0, 0)))
    (f1 : F ≠ R1) (f2 : F ≠ R2) (t1 : T ≠ R1) (t2 : T ≠ R2) (r12 : R1 ≠ R2) (hr1 : w0.heap.size ≤ R1) (hr2 : w0.heap.size ≤ R2) (hn : n ≤ 131072) (hm : m ≤ 131072)
    (ha : Row w4 xa (n * 2) (zc za)) (hb : Row w4 xb (m * 2) (zc zb)) (hna : xa = none → n = 0 ∧ ca = 0) (hnb : xb = none → m = 0 ∧ cb = 0) (hxa : ∀ y, xa = some y → y.block ≠ R1 ∧ y.block ≠ R2) (hxb : ∀ y, xb = some y → y.block ≠ R1 ∧ y.block ≠ R2)
    (hQ : ∀ (a' : Act) (w' : World) (t : T7), a'.defers = a00.defers → a'.eval (.tmp 4) = .pointer (some ⟨R1, 0, none⟩) → a'.eval (.tmp 5) = .pointer (some ⟨R2, 0, none⟩) → Below w0.heap.size w0 w' → OwnS w' 33 t.a n t.c za w4.heap.size → OwnS w' 33 t.b m t.d zb w4.heap.size → w'.heap[R1]? = some (.cells (dA p t.a n t.c) 36 (0, 0)) → w'.heap[R2]? = some (.cells (dA q t.b m t.d) 36 (0, 0)) → Q .normal a' w') :
    (Code.region id ops7 true).wp Try.prog Q a00 w4 := by
  refine wp_region_sl (Θ := T7) (by kernel_rfl) (fun t => V7 p q xa xb n ca m cb t) (fun t => W7 w0 w4 F T R1 R2 p q za zb xa xb n ca m cb t) (by kernel_rfl) (by rw [hs]; kernel_rfl) ⟨none, 0, none, 0⟩ ?_ ?_ ?_
  · have hf : ∀ j, (Array.replicate ops7.size false).getD j false = false := fun j => by
      rw [Array.getD_eq_getD_getElem?, Array.getElem?_replicate]
      split <;> rfl
    refine ⟨fun _ _ _ _ => rfl, hW0.drew, Nat.le_refl _, (fun x => by rw [hf] at x; cases x), (fun x => by rw [hf] at x; cases x), ?_, ?_, (fun x => by rw [hf] at x; cases x), (fun x => by rw [hf] at x; cases x)⟩
    · rw [hf, if_neg Bool.false_ne_true]; exact hR1
    · rw [hf, if_neg Bool.false_ne_true]; exact hR2
  · intro i o t L ac w' ho hL hu hall hS hW
    have hi : i < 6 := by rw [← size7]; exact (Array.getElem?_eq_some_iff.1 ho).1
    have hLs : L.size = 6 := by rw [hL]; exact size7
    have uf := getD_false_of_unlisted hu
    have rcs : i = 0 ∨ i = 1 ∨ i = 2 ∨ i = 3 ∨ i = 4 ∨ i = 5 := by omega
    rcases rcs with rfl | rfl | rfl | rfl | rfl | rfl
    · have ho1 := at_op (q := Op.load 47 (Operand.tmp 6)) (by kernel_rfl) ho
      have hx : ac.eval (.tmp 6) = .pointer (some ⟨F, 0, none⟩) := (hS.out (by kernel_rfl)).trans h6
      exact wp_load_row 47 _ ho1 F hx 47 (dA p xa n ca) (0, 0) _ ((hW.1 F (lt_of_block hF) f1 f2).trans hF) Try.underlying47 rfl (by kernel_rfl) ⟨t, rfl, fun _ _ => rfl, (W7.next hW (i := 0) (by omega) (by omega) (by omega) (by omega) (Below.refl _ _))⟩
    · have ho1 := at_op (q := Op.call { callee := Callee.value (Operand.func 13), args := #[Operand.tmp 13], argTypes := #[47] }) (by kernel_rfl) ho
      have hx : ac.eval (.tmp 13) = .agg (dA p xa n ca) := hS.arg (p := 0) (d := 13) ho hall (by kernel_rfl) (by kernel_rfl)
      have hrun : (execOp ac.eval o).run Try.prog w' = .ok (.enter 13 #[.agg (dA p xa n ca)]) w' := by
        unfold execOp
        simp only [ho1, List.map_toArray, List.map_cons, List.map_nil, hx]
        go_simp
        simpa [Act.eval] using hx
      have hrw : Row w' xa (n * 2) (zc za) := W7.row hW ha hxa
      refine k_call hrun (R := fun v w2 => ∃ a' c', v = .agg (dA p a' n c') ∧ Below w'.heap.size w' w2 ∧ OwnS w2 33 a' n c' za w'.heap.size) ((conv13 w' p za _ n _ (by omega) hrw hna).mono fun e w2 ⟨a', c', h1, h2, h3⟩ => ⟨_, h1, a', c', rfl, h2, h3⟩) ?_
      rintro v w2 ⟨a', c', rfl, hb2, hown⟩
      refine ⟨⟨a', c', t.b, t.d⟩, rfl, fun j hj => ?_, W7.call1 hW hLs uf hb2 hown⟩
      have hj1 : j ≠ 1 := fun h => by rw [h, uf] at hj; cases hj
      unfold V7
      rw [if_neg hj1, if_neg hj1]
    · have ho1 := at_op (q := Op.load 47 (Operand.tmp 7)) (by kernel_rfl) ho
      have hx : ac.eval (.tmp 7) = .pointer (some ⟨T, 0, none⟩) := (hS.out (by kernel_rfl)).trans h7
      exact wp_load_row 47 _ ho1 T hx 47 (dA q xb m cb) (0, 0) _ ((hW.1 T (lt_of_block hT) t1 t2).trans hT) Try.underlying47 rfl (by kernel_rfl) ⟨t, rfl, fun _ _ => rfl, (W7.next hW (i := 2) (by omega) (by omega) (by omega) (by omega) (Below.refl _ _))⟩
    · have ho1 := at_op (q := Op.call { callee := Callee.value (Operand.func 13), args := #[Operand.tmp 15], argTypes := #[47] }) (by kernel_rfl) ho
      have hx : ac.eval (.tmp 15) = .agg (dA q xb m cb) := hS.arg (p := 2) (d := 15) ho hall (by kernel_rfl) (by kernel_rfl)
      have hrun : (execOp ac.eval o).run Try.prog w' = .ok (.enter 13 #[.agg (dA q xb m cb)]) w' := by
        unfold execOp
        simp only [ho1, List.map_toArray, List.map_cons, List.map_nil, hx]
        go_simp
        simpa [Act.eval] using hx
      have hrw : Row w' xb (m * 2) (zc zb) := W7.row hW hb hxb
      refine k_call hrun (R := fun v w2 => ∃ a' c', v = .agg (dA q a' m c') ∧ Below w'.heap.size w' w2 ∧ OwnS w2 33 a' m c' zb w'.heap.size) ((conv13 w' q zb _ m _ (by omega) hrw hnb).mono fun e w2 ⟨a', c', h1, h2, h3⟩ => ⟨_, h1, a', c', rfl, h2, h3⟩) ?_
      rintro v w2 ⟨a', c', rfl, hb2, hown⟩
      refine ⟨⟨t.a, t.c, a', c'⟩, rfl, fun j hj => ?_, W7.call2 hW hLs uf hb2 hown⟩
      have hj1 : j ≠ 3 := fun h => by rw [h, uf] at hj; cases hj
      unfold V7
      rw [if_neg hj1, if_neg hj1]
    · have ho1 := at_op (q := Op.store 36 (Operand.tmp 4) (Operand.tmp 14)) (by kernel_rfl) ho
      have hd := at_dst (d := none) (by kernel_rfl) ho
      have hx : ac.eval (.tmp 4) = .pointer (some ⟨R1, 0, none⟩) := (hS.out (by kernel_rfl)).trans h4
      have hy : ac.eval (.tmp 14) = .agg (dA p t.a n t.c) := hS.arg (p := 1) (d := 14) ho hall (by kernel_rfl) (by kernel_rfl)
      have d1 := dep_listed (p := 1) (by kernel_rfl) ho hall
      have d3 := dep_listed (p := 3) (by kernel_rfl) ho hall
      obtain ⟨a1, a2, a3, a4, a5, a6, a7, a8, a9⟩ := hW
      rw [uf, if_neg Bool.false_ne_true] at a6
      refine wp_store_row 36 _ _ ho1 R1 _ hx hy 36 _ a6 (by kernel_rfl) rfl (by kernel_rfl) ?_
      refine ⟨t, by rw [hd]; rfl, fun _ _ => rfl, fun k hk x y => (setRow_other _ _ _ _ x).trans (a1 k hk x y), below_setRow a2 hr1 _, by rw [setRow_size]; exact a3, fun _ => (a4 d1).setRow (by have := lt_of_block hR1; omega), fun _ => (a5 d3).setRow (by have := lt_of_block hR1; omega), ?_, ?_, fun _ => ?_, fun _ => ?_⟩
      · rw [getD_set_same (by omega), if_pos rfl]
        exact setRow_heap _ _ _ _ _ _ a6
      · rw [getD_set_other (by omega)]
        exact (setRow_other _ _ _ _ (Ne.symm r12)).trans a7
      · rw [getD_set_other (by omega), getD_set_other (by omega)]; exact ⟨d1, d3⟩
      · rw [getD_set_other (by omega), getD_set_other (by omega)]; exact ⟨d1, d3⟩
    · have ho1 := at_op (q := Op.store 36 (Operand.tmp 5) (Operand.tmp 16)) (by kernel_rfl) ho
      have hd := at_dst (d := none) (by kernel_rfl) ho
      have hx : ac.eval (.tmp 5) = .pointer (some ⟨R2, 0, none⟩) := (hS.out (by kernel_rfl)).trans h5
      have hy : ac.eval (.tmp 16) = .agg (dA q t.b m t.d) := hS.arg (p := 3) (d := 16) ho hall (by kernel_rfl) (by kernel_rfl)
      have d3 := dep_listed (p := 3) (by kernel_rfl) ho hall
      have d4 := dep_listed (p := 4) (by kernel_rfl) ho hall
      obtain ⟨a1, a2, a3, a4, a5, a6, a7, a8, a9⟩ := hW
      have d1 := (a8 d4).1
      rw [uf, if_neg Bool.false_ne_true] at a7
      refine wp_store_row 36 _ _ ho1 R2 _ hx hy 36 _ a7 (by kernel_rfl) rfl (by kernel_rfl) ?_
      refine ⟨t, by rw [hd]; rfl, fun _ _ => rfl, fun k hk x y => (setRow_other _ _ _ _ y).trans (a1 k hk x y), below_setRow a2 hr2 _, by rw [setRow_size]; exact a3, fun _ => (a4 d1).setRow (by have := lt_of_block hR2; omega), fun _ => (a5 d3).setRow (by have := lt_of_block hR2; omega), ?_, ?_, fun _ => ?_, fun _ => ?_⟩
      · rw [getD_set_other (by omega)]
        exact (setRow_other _ _ _ _ r12).trans a6
      · rw [getD_set_same (by omega), if_pos rfl]
        exact setRow_heap _ _ _ _ _ _ a7
      · rw [getD_set_other (by omega), getD_set_other (by omega)]; exact ⟨d1, d3⟩
      · rw [getD_set_other (by omega), getD_set_other (by omega)]; exact ⟨d1, d3⟩
  · intro t L ac w' hall hS hW
    obtain ⟨a1, a2, a3, a4, a5, a6, a7, a8, a9⟩ := hW
    rw [hall 4 (by rw [size7]; omega), if_pos rfl] at a6
    rw [hall 5 (by rw [size7]; omega), if_pos rfl] at a7
    exact hQ ac w' t hS.1 ((hS.out (by kernel_rfl)).trans h4) ((hS.out (by kernel_rfl)).trans h5) a2 (a4 (hall 1 (by rw [size7]; omega))) (a5 (hall 3 (by rw [size7]; omega))) a6 a7
end Go.Proofs.Ytjomfebcigiekaa.de
