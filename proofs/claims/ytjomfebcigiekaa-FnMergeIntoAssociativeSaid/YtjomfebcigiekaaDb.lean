/-
  Deferred errors: the struct is built.
-/
import Derived.Test.YtjomfebcigiekaaDa

namespace Go.Proofs.Ytjomfebcigiekaa.de
open Go.ChangeShapes Go.WideShapes Go.ChangeAt Go.RowKit Go.Deep
set_option linter.unusedVariables false
set_option linter.unusedSimpArgs false
set_option linter.unnecessarySimpa false
set_option maxRecDepth 100000
set_option maxHeartbeats 1000000
noncomputable def ops8_8 : Array Oper := (Try.f8.body.bind (regOps 8)).getD #[]
theorem size8_8 : ops8_8.size = 12 := by kernel_rfl
noncomputable def V8_8 (B : Nat) (p : Nat → Int) (a : Option Addr) (n c i : Nat) : Value := [.pointer (some ⟨B, 0, none⟩), .agg #[.int .i32 (p 0), .int .i32 (p 1)], .agg #[.int .i32 (p 0), .int .i32 (p 1)], .pointer (some ⟨B, 2, none⟩), .agg #[.int .i32 (p 2), .int .i32 (p 3)], .agg #[.int .i32 (p 2), .int .i32 (p 3)], .pointer (some ⟨B, 4, none⟩), .agg #[.int .i32 (p 4), .int .i32 (p 5)], .agg #[.int .i32 (p 4), .int .i32 (p 5)], .slice a n c, .agg (dA p a n c), undef].getD i undef
def W8_8 (w0 w1 : World) (B R : Nat) (p : Nat → Int) (a0 a : Option Addr) (n0 c0 n c : Nat) (L : Array Bool) (w' : World) : Prop := Below w0.heap.size w0 w' ∧ (∀ k, k < w1.heap.size → k ≠ R → w'.heap[k]? = w1.heap[k]?) ∧ w'.heap[B]? = some (.cells (dA p a0 n0 c0) 31 (0, 0)) ∧ w'.heap[R]? = some (.cells (if L.getD 11 false = true then dA p a n c else dA (fun _ => 0) none 0 0) 36 (0, 0)) ∧ w1.heap.size ≤ w'.heap.size
theorem W8_8_next {w0 w1 w' w2 : World} {B R : Nat} {p : Nat → Int} {a0 a : Option Addr} {n0 c0 n c : Nat} {L : Array Bool} {i : Nat} (h : W8_8 w0 w1 B R p a0 a n0 c0 n c L w') (hi : i ≠ 11) (hb : Below w'.heap.size w' w2) : W8_8 w0 w1 B R p a0 a n0 c0 n c (L.setIfInBounds i true) w2 := by
  unfold W8_8
  rw [getD_set_other hi]
  obtain ⟨h1, h2, h3, h4, h5⟩ := h
  exact ⟨h1.trans (hb.mono h1.size), fun k hk hR => (hb.block k (by omega)).trans (h2 k hk hR), (hb.block _ (lt_of_block h3)).trans h3, (hb.block _ (lt_of_block h4)).trans h4, by have := hb.size; omega⟩
theorem reg8_8 {id : Nat} {a00 : Act} {Q : Exit → Act → World → Prop} (w0 w1 : World) (B R : Nat) (p : Nat → Int) (a0 a : Option Addr) (n0 c0 n c : Nat) (hs : a00.tmps.size = 39)
    (h1 : a00.eval (.tmp 1) = .pointer (some ⟨B, 0, none⟩)) (h2 : a00.eval (.tmp 2) = .pointer (some ⟨R, 0, none⟩)) (h3 : a00.eval (.tmp 3) = .slice a n c) (hR0 : w0.heap.size ≤ R) (hne : B ≠ R)
    (hW0 : Below w0.heap.size w0 w1) (hB : w1.heap[B]? = some (.cells (dA p a0 n0 c0) 31 (0, 0))) (hR : w1.heap[R]? = some (.cells (dA (fun _ => 0) none 0 0) 36 (0, 0)))
    (hQ : ∀ (a' : Act) (w' : World), a'.defers = a00.defers → a'.eval (.tmp 2) = .pointer (some ⟨R, 0, none⟩) → Below w0.heap.size w0 w' → (∀ k, k < w1.heap.size → k ≠ R → w'.heap[k]? = w1.heap[k]?) → w'.heap[R]? = some (.cells (dA p a n c) 36 (0, 0)) → w1.heap.size ≤ w'.heap.size → Q .normal a' w') :
    (Code.region id ops8_8 true).wp Try.prog Q a00 w1 := by
  refine wp_region_sl (Θ := Unit) (by kernel_rfl) (fun _ => V8_8 B p a n c) (fun _ => W8_8 w0 w1 B R p a0 a n0 c0 n c) (by kernel_rfl) (by rw [hs]; kernel_rfl) () ?_ ?_ ?_
  · have hf : ∀ j, (Array.replicate ops8_8.size false).getD j false = false := fun j => by
      rw [Array.getD_eq_getD_getElem?, Array.getElem?_replicate]
      split <;> rfl
    refine ⟨hW0.drew, fun _ _ _ => rfl, hB, ?_, Nat.le_refl _⟩
    rw [hf, if_neg Bool.false_ne_true]
    exact hR
  · intro i o t L ac w' ho hL hu hall hS hW
    have hi : i < 12 := by rw [← size8_8]; exact (Array.getElem?_eq_some_iff.1 ho).1
    have hLs : L.size = 12 := by rw [hL]; exact size8_8
    have uf := getD_false_of_unlisted hu
    have rcs : i = 0 ∨ i = 1 ∨ i = 2 ∨ i = 3 ∨ i = 4 ∨ i = 5 ∨ i = 6 ∨ i = 7 ∨ i = 8 ∨ i = 9 ∨ i = 10 ∨ i = 11 := by omega
    rcases rcs with rfl | rfl | rfl | rfl | rfl | rfl | rfl | rfl | rfl | rfl | rfl | rfl
    · have ho1 := at_op (q := Op.fieldAddr 31 (Operand.tmp 1) 0) (by kernel_rfl) ho
      have hx : ac.eval (.tmp 1) = .pointer (some ⟨B, 0, none⟩) := (hS.out (by kernel_rfl)).trans h1
      refine pure_op (t := t) (V := fun _ => V8_8 B p a n c) (W := fun _ => W8_8 w0 w1 B R p a0 a n0 c0 n c) (v := .pointer (some ⟨B, 0, none⟩)) ?_ rfl (W8_8_next hW (by omega) (Below.refl _ _))
      unfold execOp
      simp only [ho1, hx]
      go_simp
    · have ho1 := at_op (q := Op.load 28 (Operand.tmp 28)) (by kernel_rfl) ho
      have hx : ac.eval (.tmp 28) = .pointer (some ⟨B, 0, none⟩) := hS.arg (p := 0) (d := 28) ho hall (by kernel_rfl) (by kernel_rfl)
      have c1 : w'.cell? ⟨B, 0, none⟩ = some (.int .i32 (p 0)) := (cell_of_row _ _ 0 _ _ _ hW.2.2.1).trans rfl
      have c2 : w'.cell? ⟨B, 0 + 1, none⟩ = some (.int .i32 (p 1)) := (cell_of_row _ _ 1 _ _ _ hW.2.2.1).trans rfl
      refine pure_op (t := t) (V := fun _ => V8_8 B p a n c) (W := fun _ => W8_8 w0 w1 B R p a0 a n0 c0 n c) (v := .agg #[.int .i32 (p 0), .int .i32 (p 1)]) ?_ rfl (W8_8_next hW (by omega) (Below.refl _ _))
      unfold execOp
      simp only [ho1, hx]
      go_simp
    · have ho1 := at_op (q := Op.call { callee := Callee.value (Operand.func 14), args := #[Operand.tmp 29], argTypes := #[28] }) (by kernel_rfl) ho
      have hx : ac.eval (.tmp 29) = .agg #[.int .i32 (p 0), .int .i32 (p 1)] := hS.arg (p := 1) (d := 29) ho hall (by kernel_rfl) (by kernel_rfl)
      have hrun : (execOp ac.eval o).run Try.prog w' = .ok (.enter 14 #[.agg #[.int .i32 (p 0), .int .i32 (p 1)]]) w' := by
        unfold execOp
        simp only [ho1, List.map_toArray, List.map_cons, List.map_nil, hx]
        go_simp
        simpa [Act.eval] using hx
      refine k_call hrun (R := fun v w2 => v = .agg #[.int .i32 (p 0), .int .i32 (p 1)] ∧ Below w'.heap.size w' w2) ((rng14 _ _ w').mono fun e w2 hh => ⟨_, hh.1, rfl, hh.2⟩) ?_
      rintro v w2 ⟨rfl, hb⟩
      exact ⟨t, rfl, fun _ _ => rfl, W8_8_next hW (by omega) hb⟩
    · have ho1 := at_op (q := Op.fieldAddr 31 (Operand.tmp 1) 1) (by kernel_rfl) ho
      have hx : ac.eval (.tmp 1) = .pointer (some ⟨B, 0, none⟩) := (hS.out (by kernel_rfl)).trans h1
      refine pure_op (t := t) (V := fun _ => V8_8 B p a n c) (W := fun _ => W8_8 w0 w1 B R p a0 a n0 c0 n c) (v := .pointer (some ⟨B, 2, none⟩)) ?_ rfl (W8_8_next hW (by omega) (Below.refl _ _))
      unfold execOp
      simp only [ho1, hx]
      go_simp
    · have ho1 := at_op (q := Op.load 28 (Operand.tmp 31)) (by kernel_rfl) ho
      have hx : ac.eval (.tmp 31) = .pointer (some ⟨B, 2, none⟩) := hS.arg (p := 3) (d := 31) ho hall (by kernel_rfl) (by kernel_rfl)
      have c1 : w'.cell? ⟨B, 2, none⟩ = some (.int .i32 (p 2)) := (cell_of_row _ _ 2 _ _ _ hW.2.2.1).trans rfl
      have c2 : w'.cell? ⟨B, 2 + 1, none⟩ = some (.int .i32 (p 3)) := (cell_of_row _ _ 3 _ _ _ hW.2.2.1).trans rfl
      refine pure_op (t := t) (V := fun _ => V8_8 B p a n c) (W := fun _ => W8_8 w0 w1 B R p a0 a n0 c0 n c) (v := .agg #[.int .i32 (p 2), .int .i32 (p 3)]) ?_ rfl (W8_8_next hW (by omega) (Below.refl _ _))
      unfold execOp
      simp only [ho1, hx]
      go_simp
    · have ho1 := at_op (q := Op.call { callee := Callee.value (Operand.func 14), args := #[Operand.tmp 32], argTypes := #[28] }) (by kernel_rfl) ho
      have hx : ac.eval (.tmp 32) = .agg #[.int .i32 (p 2), .int .i32 (p 3)] := hS.arg (p := 4) (d := 32) ho hall (by kernel_rfl) (by kernel_rfl)
      have hrun : (execOp ac.eval o).run Try.prog w' = .ok (.enter 14 #[.agg #[.int .i32 (p 2), .int .i32 (p 3)]]) w' := by
        unfold execOp
        simp only [ho1, List.map_toArray, List.map_cons, List.map_nil, hx]
        go_simp
        simpa [Act.eval] using hx
      refine k_call hrun (R := fun v w2 => v = .agg #[.int .i32 (p 2), .int .i32 (p 3)] ∧ Below w'.heap.size w' w2) ((rng14 _ _ w').mono fun e w2 hh => ⟨_, hh.1, rfl, hh.2⟩) ?_
      rintro v w2 ⟨rfl, hb⟩
      exact ⟨t, rfl, fun _ _ => rfl, W8_8_next hW (by omega) hb⟩
    · have ho1 := at_op (q := Op.fieldAddr 31 (Operand.tmp 1) 2) (by kernel_rfl) ho
      have hx : ac.eval (.tmp 1) = .pointer (some ⟨B, 0, none⟩) := (hS.out (by kernel_rfl)).trans h1
      refine pure_op (t := t) (V := fun _ => V8_8 B p a n c) (W := fun _ => W8_8 w0 w1 B R p a0 a n0 c0 n c) (v := .pointer (some ⟨B, 4, none⟩)) ?_ rfl (W8_8_next hW (by omega) (Below.refl _ _))
      unfold execOp
      simp only [ho1, hx]
      go_simp
    · have ho1 := at_op (q := Op.load 28 (Operand.tmp 34)) (by kernel_rfl) ho
      have hx : ac.eval (.tmp 34) = .pointer (some ⟨B, 4, none⟩) := hS.arg (p := 6) (d := 34) ho hall (by kernel_rfl) (by kernel_rfl)
      have c1 : w'.cell? ⟨B, 4, none⟩ = some (.int .i32 (p 4)) := (cell_of_row _ _ 4 _ _ _ hW.2.2.1).trans rfl
      have c2 : w'.cell? ⟨B, 4 + 1, none⟩ = some (.int .i32 (p 5)) := (cell_of_row _ _ 5 _ _ _ hW.2.2.1).trans rfl
      refine pure_op (t := t) (V := fun _ => V8_8 B p a n c) (W := fun _ => W8_8 w0 w1 B R p a0 a n0 c0 n c) (v := .agg #[.int .i32 (p 4), .int .i32 (p 5)]) ?_ rfl (W8_8_next hW (by omega) (Below.refl _ _))
      unfold execOp
      simp only [ho1, hx]
      go_simp
    · have ho1 := at_op (q := Op.call { callee := Callee.value (Operand.func 14), args := #[Operand.tmp 35], argTypes := #[28] }) (by kernel_rfl) ho
      have hx : ac.eval (.tmp 35) = .agg #[.int .i32 (p 4), .int .i32 (p 5)] := hS.arg (p := 7) (d := 35) ho hall (by kernel_rfl) (by kernel_rfl)
      have hrun : (execOp ac.eval o).run Try.prog w' = .ok (.enter 14 #[.agg #[.int .i32 (p 4), .int .i32 (p 5)]]) w' := by
        unfold execOp
        simp only [ho1, List.map_toArray, List.map_cons, List.map_nil, hx]
        go_simp
        simpa [Act.eval] using hx
      refine k_call hrun (R := fun v w2 => v = .agg #[.int .i32 (p 4), .int .i32 (p 5)] ∧ Below w'.heap.size w' w2) ((rng14 _ _ w').mono fun e w2 hh => ⟨_, hh.1, rfl, hh.2⟩) ?_
      rintro v w2 ⟨rfl, hb⟩
      exact ⟨t, rfl, fun _ _ => rfl, W8_8_next hW (by omega) hb⟩
    · have ho1 := at_op (q := Op.move (Operand.tmp 3)) (by kernel_rfl) ho
      have hx : ac.eval (.tmp 3) = .slice a n c := (hS.out (by kernel_rfl)).trans h3
      exact pure_op (t := t) (V := fun _ => V8_8 B p a n c) (W := fun _ => W8_8 w0 w1 B R p a0 a n0 c0 n c) (v := .slice a n c) (k_move _ ho1 hx) rfl (W8_8_next hW (by omega) (Below.refl _ _))
    · have ho1 := at_op (q := Op.build 36 #[(0, Operand.tmp 30), (1, Operand.tmp 33), (2, Operand.tmp 36), (3, Operand.tmp 37)]) (by kernel_rfl) ho
      have hx0 : ac.eval (.tmp 30) = .agg #[.int .i32 (p 0), .int .i32 (p 1)] := hS.arg (p := 2) (d := 30) ho hall (by kernel_rfl) (by kernel_rfl)
      have hx1 : ac.eval (.tmp 33) = .agg #[.int .i32 (p 2), .int .i32 (p 3)] := hS.arg (p := 5) (d := 33) ho hall (by kernel_rfl) (by kernel_rfl)
      have hx2 : ac.eval (.tmp 36) = .agg #[.int .i32 (p 4), .int .i32 (p 5)] := hS.arg (p := 8) (d := 36) ho hall (by kernel_rfl) (by kernel_rfl)
      have hx3 : ac.eval (.tmp 37) = .slice a n c := hS.arg (p := 9) (d := 37) ho hall (by kernel_rfl) (by kernel_rfl)
      refine pure_op (t := t) (V := fun _ => V8_8 B p a n c) (W := fun _ => W8_8 w0 w1 B R p a0 a n0 c0 n c) (k_build 36 _ ho1 (dA p a n c) ?_) rfl (W8_8_next hW (by omega) (Below.refl _ _))
      simp only [List.map_toArray, List.map_cons, List.map_nil, hx0, hx1, hx2, hx3]
      kernel_rfl
    · have ho1 := at_op (q := Op.store 36 (Operand.tmp 2) (Operand.tmp 38)) (by kernel_rfl) ho
      have hd := at_dst (d := none) (by kernel_rfl) ho
      have hx : ac.eval (.tmp 2) = .pointer (some ⟨R, 0, none⟩) := (hS.out (by kernel_rfl)).trans h2
      have hy : ac.eval (.tmp 38) = .agg (dA p a n c) := hS.arg (p := 10) (d := 38) ho hall (by kernel_rfl) (by kernel_rfl)
      have k2 := hW.2.2.2.1
      rw [uf, if_neg Bool.false_ne_true] at k2
      refine wp_store_row 36 _ _ ho1 R _ hx hy 36 _ k2 (by kernel_rfl) rfl (by kernel_rfl) ?_
      refine ⟨t, by rw [hd]; rfl, fun _ _ => rfl, below_setRow hW.1 hR0 _, fun k hk hkR => (setRow_other _ _ _ _ hkR).trans (hW.2.1 k hk hkR), (setRow_other _ _ _ _ hne).trans hW.2.2.1, ?_, by rw [setRow_size]; exact hW.2.2.2.2⟩
      rw [getD_set_same (by omega), if_pos rfl]
      exact setRow_heap _ _ _ _ _ _ k2
  · intro t L ac w' hall hS hW
    have k2 := hW.2.2.2.1
    rw [hall 11 (by rw [size8_8]; omega), if_pos rfl] at k2
    exact hQ ac w' hS.1 ((hS.out (by kernel_rfl)).trans h2) hW.1 hW.2.1 k2 hW.2.2.2.2
noncomputable def ops8_11 : Array Oper := (Try.f11.body.bind (regOps 8)).getD #[]
theorem size8_11 : ops8_11.size = 12 := by kernel_rfl
noncomputable def V8_11 (B : Nat) (p : Nat → Int) (a : Option Addr) (n c i : Nat) : Value := [.pointer (some ⟨B, 0, none⟩), .agg #[.int .i32 (p 0), .int .i32 (p 1)], .agg #[.int .i32 (p 0), .int .i32 (p 1)], .pointer (some ⟨B, 2, none⟩), .agg #[.int .i32 (p 2), .int .i32 (p 3)], .agg #[.int .i32 (p 2), .int .i32 (p 3)], .pointer (some ⟨B, 4, none⟩), .agg #[.int .i32 (p 4), .int .i32 (p 5)], .agg #[.int .i32 (p 4), .int .i32 (p 5)], .slice a n c, .agg (dA p a n c), undef].getD i undef
def W8_11 (w0 w1 : World) (B R : Nat) (p : Nat → Int) (a0 a : Option Addr) (n0 c0 n c : Nat) (L : Array Bool) (w' : World) : Prop := Below w0.heap.size w0 w' ∧ (∀ k, k < w1.heap.size → k ≠ R → w'.heap[k]? = w1.heap[k]?) ∧ w'.heap[B]? = some (.cells (dA p a0 n0 c0) 36 (0, 0)) ∧ w'.heap[R]? = some (.cells (if L.getD 11 false = true then dA p a n c else dA (fun _ => 0) none 0 0) 47 (0, 0)) ∧ w1.heap.size ≤ w'.heap.size
theorem W8_11_next {w0 w1 w' w2 : World} {B R : Nat} {p : Nat → Int} {a0 a : Option Addr} {n0 c0 n c : Nat} {L : Array Bool} {i : Nat} (h : W8_11 w0 w1 B R p a0 a n0 c0 n c L w') (hi : i ≠ 11) (hb : Below w'.heap.size w' w2) : W8_11 w0 w1 B R p a0 a n0 c0 n c (L.setIfInBounds i true) w2 := by
  unfold W8_11
  rw [getD_set_other hi]
  obtain ⟨h1, h2, h3, h4, h5⟩ := h
  exact ⟨h1.trans (hb.mono h1.size), fun k hk hR => (hb.block k (by omega)).trans (h2 k hk hR), (hb.block _ (lt_of_block h3)).trans h3, (hb.block _ (lt_of_block h4)).trans h4, by have := hb.size; omega⟩
theorem reg8_11 {id : Nat} {a00 : Act} {Q : Exit → Act → World → Prop} (w0 w1 : World) (B R : Nat) (p : Nat → Int) (a0 a : Option Addr) (n0 c0 n c : Nat) (hs : a00.tmps.size = 39)
    (h1 : a00.eval (.tmp 1) = .pointer (some ⟨B, 0, none⟩)) (h2 : a00.eval (.tmp 2) = .pointer (some ⟨R, 0, none⟩)) (h3 : a00.eval (.tmp 3) = .slice a n c) (hR0 : w0.heap.size ≤ R) (hne : B ≠ R)
    (hW0 : Below w0.heap.size w0 w1) (hB : w1.heap[B]? = some (.cells (dA p a0 n0 c0) 36 (0, 0))) (hR : w1.heap[R]? = some (.cells (dA (fun _ => 0) none 0 0) 47 (0, 0)))
    (hQ : ∀ (a' : Act) (w' : World), a'.defers = a00.defers → a'.eval (.tmp 2) = .pointer (some ⟨R, 0, none⟩) → Below w0.heap.size w0 w' → (∀ k, k < w1.heap.size → k ≠ R → w'.heap[k]? = w1.heap[k]?) → w'.heap[R]? = some (.cells (dA p a n c) 47 (0, 0)) → w1.heap.size ≤ w'.heap.size → Q .normal a' w') :
    (Code.region id ops8_11 true).wp Try.prog Q a00 w1 := by
  refine wp_region_sl (Θ := Unit) (by kernel_rfl) (fun _ => V8_11 B p a n c) (fun _ => W8_11 w0 w1 B R p a0 a n0 c0 n c) (by kernel_rfl) (by rw [hs]; kernel_rfl) () ?_ ?_ ?_
  · have hf : ∀ j, (Array.replicate ops8_11.size false).getD j false = false := fun j => by
      rw [Array.getD_eq_getD_getElem?, Array.getElem?_replicate]
      split <;> rfl
    refine ⟨hW0.drew, fun _ _ _ => rfl, hB, ?_, Nat.le_refl _⟩
    rw [hf, if_neg Bool.false_ne_true]
    exact hR
  · intro i o t L ac w' ho hL hu hall hS hW
    have hi : i < 12 := by rw [← size8_11]; exact (Array.getElem?_eq_some_iff.1 ho).1
    have hLs : L.size = 12 := by rw [hL]; exact size8_11
    have uf := getD_false_of_unlisted hu
    have rcs : i = 0 ∨ i = 1 ∨ i = 2 ∨ i = 3 ∨ i = 4 ∨ i = 5 ∨ i = 6 ∨ i = 7 ∨ i = 8 ∨ i = 9 ∨ i = 10 ∨ i = 11 := by omega
    rcases rcs with rfl | rfl | rfl | rfl | rfl | rfl | rfl | rfl | rfl | rfl | rfl | rfl
    · have ho1 := at_op (q := Op.fieldAddr 36 (Operand.tmp 1) 0) (by kernel_rfl) ho
      have hx : ac.eval (.tmp 1) = .pointer (some ⟨B, 0, none⟩) := (hS.out (by kernel_rfl)).trans h1
      refine pure_op (t := t) (V := fun _ => V8_11 B p a n c) (W := fun _ => W8_11 w0 w1 B R p a0 a n0 c0 n c) (v := .pointer (some ⟨B, 0, none⟩)) ?_ rfl (W8_11_next hW (by omega) (Below.refl _ _))
      unfold execOp
      simp only [ho1, hx]
      go_simp
    · have ho1 := at_op (q := Op.load 33 (Operand.tmp 28)) (by kernel_rfl) ho
      have hx : ac.eval (.tmp 28) = .pointer (some ⟨B, 0, none⟩) := hS.arg (p := 0) (d := 28) ho hall (by kernel_rfl) (by kernel_rfl)
      have c1 : w'.cell? ⟨B, 0, none⟩ = some (.int .i32 (p 0)) := (cell_of_row _ _ 0 _ _ _ hW.2.2.1).trans rfl
      have c2 : w'.cell? ⟨B, 0 + 1, none⟩ = some (.int .i32 (p 1)) := (cell_of_row _ _ 1 _ _ _ hW.2.2.1).trans rfl
      refine pure_op (t := t) (V := fun _ => V8_11 B p a n c) (W := fun _ => W8_11 w0 w1 B R p a0 a n0 c0 n c) (v := .agg #[.int .i32 (p 0), .int .i32 (p 1)]) ?_ rfl (W8_11_next hW (by omega) (Below.refl _ _))
      unfold execOp
      simp only [ho1, hx]
      go_simp
    · have ho1 := at_op (q := Op.call { callee := Callee.value (Operand.func 16), args := #[Operand.tmp 29], argTypes := #[33] }) (by kernel_rfl) ho
      have hx : ac.eval (.tmp 29) = .agg #[.int .i32 (p 0), .int .i32 (p 1)] := hS.arg (p := 1) (d := 29) ho hall (by kernel_rfl) (by kernel_rfl)
      have hrun : (execOp ac.eval o).run Try.prog w' = .ok (.enter 16 #[.agg #[.int .i32 (p 0), .int .i32 (p 1)]]) w' := by
        unfold execOp
        simp only [ho1, List.map_toArray, List.map_cons, List.map_nil, hx]
        go_simp
        simpa [Act.eval] using hx
      refine k_call hrun (R := fun v w2 => v = .agg #[.int .i32 (p 0), .int .i32 (p 1)] ∧ Below w'.heap.size w' w2) ((rng16 _ _ w').mono fun e w2 hh => ⟨_, hh.1, rfl, hh.2⟩) ?_
      rintro v w2 ⟨rfl, hb⟩
      exact ⟨t, rfl, fun _ _ => rfl, W8_11_next hW (by omega) hb⟩
    · have ho1 := at_op (q := Op.fieldAddr 36 (Operand.tmp 1) 1) (by kernel_rfl) ho
      have hx : ac.eval (.tmp 1) = .pointer (some ⟨B, 0, none⟩) := (hS.out (by kernel_rfl)).trans h1
      refine pure_op (t := t) (V := fun _ => V8_11 B p a n c) (W := fun _ => W8_11 w0 w1 B R p a0 a n0 c0 n c) (v := .pointer (some ⟨B, 2, none⟩)) ?_ rfl (W8_11_next hW (by omega) (Below.refl _ _))
      unfold execOp
      simp only [ho1, hx]
      go_simp
    · have ho1 := at_op (q := Op.load 33 (Operand.tmp 31)) (by kernel_rfl) ho
      have hx : ac.eval (.tmp 31) = .pointer (some ⟨B, 2, none⟩) := hS.arg (p := 3) (d := 31) ho hall (by kernel_rfl) (by kernel_rfl)
      have c1 : w'.cell? ⟨B, 2, none⟩ = some (.int .i32 (p 2)) := (cell_of_row _ _ 2 _ _ _ hW.2.2.1).trans rfl
      have c2 : w'.cell? ⟨B, 2 + 1, none⟩ = some (.int .i32 (p 3)) := (cell_of_row _ _ 3 _ _ _ hW.2.2.1).trans rfl
      refine pure_op (t := t) (V := fun _ => V8_11 B p a n c) (W := fun _ => W8_11 w0 w1 B R p a0 a n0 c0 n c) (v := .agg #[.int .i32 (p 2), .int .i32 (p 3)]) ?_ rfl (W8_11_next hW (by omega) (Below.refl _ _))
      unfold execOp
      simp only [ho1, hx]
      go_simp
    · have ho1 := at_op (q := Op.call { callee := Callee.value (Operand.func 16), args := #[Operand.tmp 32], argTypes := #[33] }) (by kernel_rfl) ho
      have hx : ac.eval (.tmp 32) = .agg #[.int .i32 (p 2), .int .i32 (p 3)] := hS.arg (p := 4) (d := 32) ho hall (by kernel_rfl) (by kernel_rfl)
      have hrun : (execOp ac.eval o).run Try.prog w' = .ok (.enter 16 #[.agg #[.int .i32 (p 2), .int .i32 (p 3)]]) w' := by
        unfold execOp
        simp only [ho1, List.map_toArray, List.map_cons, List.map_nil, hx]
        go_simp
        simpa [Act.eval] using hx
      refine k_call hrun (R := fun v w2 => v = .agg #[.int .i32 (p 2), .int .i32 (p 3)] ∧ Below w'.heap.size w' w2) ((rng16 _ _ w').mono fun e w2 hh => ⟨_, hh.1, rfl, hh.2⟩) ?_
      rintro v w2 ⟨rfl, hb⟩
      exact ⟨t, rfl, fun _ _ => rfl, W8_11_next hW (by omega) hb⟩
    · have ho1 := at_op (q := Op.fieldAddr 36 (Operand.tmp 1) 2) (by kernel_rfl) ho
      have hx : ac.eval (.tmp 1) = .pointer (some ⟨B, 0, none⟩) := (hS.out (by kernel_rfl)).trans h1
      refine pure_op (t := t) (V := fun _ => V8_11 B p a n c) (W := fun _ => W8_11 w0 w1 B R p a0 a n0 c0 n c) (v := .pointer (some ⟨B, 4, none⟩)) ?_ rfl (W8_11_next hW (by omega) (Below.refl _ _))
      unfold execOp
      simp only [ho1, hx]
      go_simp
    · have ho1 := at_op (q := Op.load 33 (Operand.tmp 34)) (by kernel_rfl) ho
      have hx : ac.eval (.tmp 34) = .pointer (some ⟨B, 4, none⟩) := hS.arg (p := 6) (d := 34) ho hall (by kernel_rfl) (by kernel_rfl)
      have c1 : w'.cell? ⟨B, 4, none⟩ = some (.int .i32 (p 4)) := (cell_of_row _ _ 4 _ _ _ hW.2.2.1).trans rfl
      have c2 : w'.cell? ⟨B, 4 + 1, none⟩ = some (.int .i32 (p 5)) := (cell_of_row _ _ 5 _ _ _ hW.2.2.1).trans rfl
      refine pure_op (t := t) (V := fun _ => V8_11 B p a n c) (W := fun _ => W8_11 w0 w1 B R p a0 a n0 c0 n c) (v := .agg #[.int .i32 (p 4), .int .i32 (p 5)]) ?_ rfl (W8_11_next hW (by omega) (Below.refl _ _))
      unfold execOp
      simp only [ho1, hx]
      go_simp
    · have ho1 := at_op (q := Op.call { callee := Callee.value (Operand.func 16), args := #[Operand.tmp 35], argTypes := #[33] }) (by kernel_rfl) ho
      have hx : ac.eval (.tmp 35) = .agg #[.int .i32 (p 4), .int .i32 (p 5)] := hS.arg (p := 7) (d := 35) ho hall (by kernel_rfl) (by kernel_rfl)
      have hrun : (execOp ac.eval o).run Try.prog w' = .ok (.enter 16 #[.agg #[.int .i32 (p 4), .int .i32 (p 5)]]) w' := by
        unfold execOp
        simp only [ho1, List.map_toArray, List.map_cons, List.map_nil, hx]
        go_simp
        simpa [Act.eval] using hx
      refine k_call hrun (R := fun v w2 => v = .agg #[.int .i32 (p 4), .int .i32 (p 5)] ∧ Below w'.heap.size w' w2) ((rng16 _ _ w').mono fun e w2 hh => ⟨_, hh.1, rfl, hh.2⟩) ?_
      rintro v w2 ⟨rfl, hb⟩
      exact ⟨t, rfl, fun _ _ => rfl, W8_11_next hW (by omega) hb⟩
    · have ho1 := at_op (q := Op.move (Operand.tmp 3)) (by kernel_rfl) ho
      have hx : ac.eval (.tmp 3) = .slice a n c := (hS.out (by kernel_rfl)).trans h3
      exact pure_op (t := t) (V := fun _ => V8_11 B p a n c) (W := fun _ => W8_11 w0 w1 B R p a0 a n0 c0 n c) (v := .slice a n c) (k_move _ ho1 hx) rfl (W8_11_next hW (by omega) (Below.refl _ _))
    · have ho1 := at_op (q := Op.build 47 #[(0, Operand.tmp 30), (1, Operand.tmp 33), (2, Operand.tmp 36), (3, Operand.tmp 37)]) (by kernel_rfl) ho
      have hx0 : ac.eval (.tmp 30) = .agg #[.int .i32 (p 0), .int .i32 (p 1)] := hS.arg (p := 2) (d := 30) ho hall (by kernel_rfl) (by kernel_rfl)
      have hx1 : ac.eval (.tmp 33) = .agg #[.int .i32 (p 2), .int .i32 (p 3)] := hS.arg (p := 5) (d := 33) ho hall (by kernel_rfl) (by kernel_rfl)
      have hx2 : ac.eval (.tmp 36) = .agg #[.int .i32 (p 4), .int .i32 (p 5)] := hS.arg (p := 8) (d := 36) ho hall (by kernel_rfl) (by kernel_rfl)
      have hx3 : ac.eval (.tmp 37) = .slice a n c := hS.arg (p := 9) (d := 37) ho hall (by kernel_rfl) (by kernel_rfl)
      refine pure_op (t := t) (V := fun _ => V8_11 B p a n c) (W := fun _ => W8_11 w0 w1 B R p a0 a n0 c0 n c) (k_build 47 _ ho1 (dA p a n c) ?_) rfl (W8_11_next hW (by omega) (Below.refl _ _))
      simp only [List.map_toArray, List.map_cons, List.map_nil, hx0, hx1, hx2, hx3]
      kernel_rfl
    · have ho1 := at_op (q := Op.store 47 (Operand.tmp 2) (Operand.tmp 38)) (by kernel_rfl) ho
      have hd := at_dst (d := none) (by kernel_rfl) ho
      have hx : ac.eval (.tmp 2) = .pointer (some ⟨R, 0, none⟩) := (hS.out (by kernel_rfl)).trans h2
      have hy : ac.eval (.tmp 38) = .agg (dA p a n c) := hS.arg (p := 10) (d := 38) ho hall (by kernel_rfl) (by kernel_rfl)
      have k2 := hW.2.2.2.1
      rw [uf, if_neg Bool.false_ne_true] at k2
      refine wp_store_row 47 _ _ ho1 R _ hx hy 47 _ k2 (by kernel_rfl) rfl (by kernel_rfl) ?_
      refine ⟨t, by rw [hd]; rfl, fun _ _ => rfl, below_setRow hW.1 hR0 _, fun k hk hkR => (setRow_other _ _ _ _ hkR).trans (hW.2.1 k hk hkR), (setRow_other _ _ _ _ hne).trans hW.2.2.1, ?_, by rw [setRow_size]; exact hW.2.2.2.2⟩
      rw [getD_set_same (by omega), if_pos rfl]
      exact setRow_heap _ _ _ _ _ _ k2
  · intro t L ac w' hall hS hW
    have k2 := hW.2.2.2.1
    rw [hall 11 (by rw [size8_11]; omega), if_pos rfl] at k2
    exact hQ ac w' hS.1 ((hS.out (by kernel_rfl)).trans h2) hW.1 hW.2.1 k2 hW.2.2.2.2
noncomputable def ops8_13 : Array Oper := (Try.f13.body.bind (regOps 8)).getD #[]
theorem size8_13 : ops8_13.size = 12 := by kernel_rfl
noncomputable def V8_13 (B : Nat) (p : Nat → Int) (a : Option Addr) (n c i : Nat) : Value := [.pointer (some ⟨B, 0, none⟩), .agg #[.int .i32 (p 0), .int .i32 (p 1)], .agg #[.int .i32 (p 0), .int .i32 (p 1)], .pointer (some ⟨B, 2, none⟩), .agg #[.int .i32 (p 2), .int .i32 (p 3)], .agg #[.int .i32 (p 2), .int .i32 (p 3)], .pointer (some ⟨B, 4, none⟩), .agg #[.int .i32 (p 4), .int .i32 (p 5)], .agg #[.int .i32 (p 4), .int .i32 (p 5)], .slice a n c, .agg (dA p a n c), undef].getD i undef
def W8_13 (w0 w1 : World) (B R : Nat) (p : Nat → Int) (a0 a : Option Addr) (n0 c0 n c : Nat) (L : Array Bool) (w' : World) : Prop := Below w0.heap.size w0 w' ∧ (∀ k, k < w1.heap.size → k ≠ R → w'.heap[k]? = w1.heap[k]?) ∧ w'.heap[B]? = some (.cells (dA p a0 n0 c0) 47 (0, 0)) ∧ w'.heap[R]? = some (.cells (if L.getD 11 false = true then dA p a n c else dA (fun _ => 0) none 0 0) 36 (0, 0)) ∧ w1.heap.size ≤ w'.heap.size
theorem W8_13_next {w0 w1 w' w2 : World} {B R : Nat} {p : Nat → Int} {a0 a : Option Addr} {n0 c0 n c : Nat} {L : Array Bool} {i : Nat} (h : W8_13 w0 w1 B R p a0 a n0 c0 n c L w') (hi : i ≠ 11) (hb : Below w'.heap.size w' w2) : W8_13 w0 w1 B R p a0 a n0 c0 n c (L.setIfInBounds i true) w2 := by
  unfold W8_13
  rw [getD_set_other hi]
  obtain ⟨h1, h2, h3, h4, h5⟩ := h
  exact ⟨h1.trans (hb.mono h1.size), fun k hk hR => (hb.block k (by omega)).trans (h2 k hk hR), (hb.block _ (lt_of_block h3)).trans h3, (hb.block _ (lt_of_block h4)).trans h4, by have := hb.size; omega⟩
theorem reg8_13 {id : Nat} {a00 : Act} {Q : Exit → Act → World → Prop} (w0 w1 : World) (B R : Nat) (p : Nat → Int) (a0 a : Option Addr) (n0 c0 n c : Nat) (hs : a00.tmps.size = 39)
    (h1 : a00.eval (.tmp 1) = .pointer (some ⟨B, 0, none⟩)) (h2 : a00.eval (.tmp 2) = .pointer (some ⟨R, 0, none⟩)) (h3 : a00.eval (.tmp 3) = .slice a n c) (hR0 : w0.heap.size ≤ R) (hne : B ≠ R)
    (hW0 : Below w0.heap.size w0 w1) (hB : w1.heap[B]? = some (.cells (dA p a0 n0 c0) 47 (0, 0))) (hR : w1.heap[R]? = some (.cells (dA (fun _ => 0) none 0 0) 36 (0, 0)))
    (hQ : ∀ (a' : Act) (w' : World), a'.defers = a00.defers → a'.eval (.tmp 2) = .pointer (some ⟨R, 0, none⟩) → Below w0.heap.size w0 w' → (∀ k, k < w1.heap.size → k ≠ R → w'.heap[k]? = w1.heap[k]?) → w'.heap[R]? = some (.cells (dA p a n c) 36 (0, 0)) → w1.heap.size ≤ w'.heap.size → Q .normal a' w') :
    (Code.region id ops8_13 true).wp Try.prog Q a00 w1 := by
  refine wp_region_sl (Θ := Unit) (by kernel_rfl) (fun _ => V8_13 B p a n c) (fun _ => W8_13 w0 w1 B R p a0 a n0 c0 n c) (by kernel_rfl) (by rw [hs]; kernel_rfl) () ?_ ?_ ?_
  · have hf : ∀ j, (Array.replicate ops8_13.size false).getD j false = false := fun j => by
      rw [Array.getD_eq_getD_getElem?, Array.getElem?_replicate]
      split <;> rfl
    refine ⟨hW0.drew, fun _ _ _ => rfl, hB, ?_, Nat.le_refl _⟩
    rw [hf, if_neg Bool.false_ne_true]
    exact hR
  · intro i o t L ac w' ho hL hu hall hS hW
    have hi : i < 12 := by rw [← size8_13]; exact (Array.getElem?_eq_some_iff.1 ho).1
    have hLs : L.size = 12 := by rw [hL]; exact size8_13
    have uf := getD_false_of_unlisted hu
    have rcs : i = 0 ∨ i = 1 ∨ i = 2 ∨ i = 3 ∨ i = 4 ∨ i = 5 ∨ i = 6 ∨ i = 7 ∨ i = 8 ∨ i = 9 ∨ i = 10 ∨ i = 11 := by omega
    rcases rcs with rfl | rfl | rfl | rfl | rfl | rfl | rfl | rfl | rfl | rfl | rfl | rfl
    · have ho1 := at_op (q := Op.fieldAddr 47 (Operand.tmp 1) 0) (by kernel_rfl) ho
      have hx : ac.eval (.tmp 1) = .pointer (some ⟨B, 0, none⟩) := (hS.out (by kernel_rfl)).trans h1
      refine pure_op (t := t) (V := fun _ => V8_13 B p a n c) (W := fun _ => W8_13 w0 w1 B R p a0 a n0 c0 n c) (v := .pointer (some ⟨B, 0, none⟩)) ?_ rfl (W8_13_next hW (by omega) (Below.refl _ _))
      unfold execOp
      simp only [ho1, hx]
      go_simp
    · have ho1 := at_op (q := Op.load 44 (Operand.tmp 28)) (by kernel_rfl) ho
      have hx : ac.eval (.tmp 28) = .pointer (some ⟨B, 0, none⟩) := hS.arg (p := 0) (d := 28) ho hall (by kernel_rfl) (by kernel_rfl)
      have c1 : w'.cell? ⟨B, 0, none⟩ = some (.int .i32 (p 0)) := (cell_of_row _ _ 0 _ _ _ hW.2.2.1).trans rfl
      have c2 : w'.cell? ⟨B, 0 + 1, none⟩ = some (.int .i32 (p 1)) := (cell_of_row _ _ 1 _ _ _ hW.2.2.1).trans rfl
      refine pure_op (t := t) (V := fun _ => V8_13 B p a n c) (W := fun _ => W8_13 w0 w1 B R p a0 a n0 c0 n c) (v := .agg #[.int .i32 (p 0), .int .i32 (p 1)]) ?_ rfl (W8_13_next hW (by omega) (Below.refl _ _))
      unfold execOp
      simp only [ho1, hx]
      go_simp
    · have ho1 := at_op (q := Op.call { callee := Callee.value (Operand.func 17), args := #[Operand.tmp 29], argTypes := #[44] }) (by kernel_rfl) ho
      have hx : ac.eval (.tmp 29) = .agg #[.int .i32 (p 0), .int .i32 (p 1)] := hS.arg (p := 1) (d := 29) ho hall (by kernel_rfl) (by kernel_rfl)
      have hrun : (execOp ac.eval o).run Try.prog w' = .ok (.enter 17 #[.agg #[.int .i32 (p 0), .int .i32 (p 1)]]) w' := by
        unfold execOp
        simp only [ho1, List.map_toArray, List.map_cons, List.map_nil, hx]
        go_simp
        simpa [Act.eval] using hx
      refine k_call hrun (R := fun v w2 => v = .agg #[.int .i32 (p 0), .int .i32 (p 1)] ∧ Below w'.heap.size w' w2) ((rng17 _ _ w').mono fun e w2 hh => ⟨_, hh.1, rfl, hh.2⟩) ?_
      rintro v w2 ⟨rfl, hb⟩
      exact ⟨t, rfl, fun _ _ => rfl, W8_13_next hW (by omega) hb⟩
    · have ho1 := at_op (q := Op.fieldAddr 47 (Operand.tmp 1) 1) (by kernel_rfl) ho
      have hx : ac.eval (.tmp 1) = .pointer (some ⟨B, 0, none⟩) := (hS.out (by kernel_rfl)).trans h1
      refine pure_op (t := t) (V := fun _ => V8_13 B p a n c) (W := fun _ => W8_13 w0 w1 B R p a0 a n0 c0 n c) (v := .pointer (some ⟨B, 2, none⟩)) ?_ rfl (W8_13_next hW (by omega) (Below.refl _ _))
      unfold execOp
      simp only [ho1, hx]
      go_simp
    · have ho1 := at_op (q := Op.load 44 (Operand.tmp 31)) (by kernel_rfl) ho
      have hx : ac.eval (.tmp 31) = .pointer (some ⟨B, 2, none⟩) := hS.arg (p := 3) (d := 31) ho hall (by kernel_rfl) (by kernel_rfl)
      have c1 : w'.cell? ⟨B, 2, none⟩ = some (.int .i32 (p 2)) := (cell_of_row _ _ 2 _ _ _ hW.2.2.1).trans rfl
      have c2 : w'.cell? ⟨B, 2 + 1, none⟩ = some (.int .i32 (p 3)) := (cell_of_row _ _ 3 _ _ _ hW.2.2.1).trans rfl
      refine pure_op (t := t) (V := fun _ => V8_13 B p a n c) (W := fun _ => W8_13 w0 w1 B R p a0 a n0 c0 n c) (v := .agg #[.int .i32 (p 2), .int .i32 (p 3)]) ?_ rfl (W8_13_next hW (by omega) (Below.refl _ _))
      unfold execOp
      simp only [ho1, hx]
      go_simp
    · have ho1 := at_op (q := Op.call { callee := Callee.value (Operand.func 17), args := #[Operand.tmp 32], argTypes := #[44] }) (by kernel_rfl) ho
      have hx : ac.eval (.tmp 32) = .agg #[.int .i32 (p 2), .int .i32 (p 3)] := hS.arg (p := 4) (d := 32) ho hall (by kernel_rfl) (by kernel_rfl)
      have hrun : (execOp ac.eval o).run Try.prog w' = .ok (.enter 17 #[.agg #[.int .i32 (p 2), .int .i32 (p 3)]]) w' := by
        unfold execOp
        simp only [ho1, List.map_toArray, List.map_cons, List.map_nil, hx]
        go_simp
        simpa [Act.eval] using hx
      refine k_call hrun (R := fun v w2 => v = .agg #[.int .i32 (p 2), .int .i32 (p 3)] ∧ Below w'.heap.size w' w2) ((rng17 _ _ w').mono fun e w2 hh => ⟨_, hh.1, rfl, hh.2⟩) ?_
      rintro v w2 ⟨rfl, hb⟩
      exact ⟨t, rfl, fun _ _ => rfl, W8_13_next hW (by omega) hb⟩
    · have ho1 := at_op (q := Op.fieldAddr 47 (Operand.tmp 1) 2) (by kernel_rfl) ho
      have hx : ac.eval (.tmp 1) = .pointer (some ⟨B, 0, none⟩) := (hS.out (by kernel_rfl)).trans h1
      refine pure_op (t := t) (V := fun _ => V8_13 B p a n c) (W := fun _ => W8_13 w0 w1 B R p a0 a n0 c0 n c) (v := .pointer (some ⟨B, 4, none⟩)) ?_ rfl (W8_13_next hW (by omega) (Below.refl _ _))
      unfold execOp
      simp only [ho1, hx]
      go_simp
    · have ho1 := at_op (q := Op.load 44 (Operand.tmp 34)) (by kernel_rfl) ho
      have hx : ac.eval (.tmp 34) = .pointer (some ⟨B, 4, none⟩) := hS.arg (p := 6) (d := 34) ho hall (by kernel_rfl) (by kernel_rfl)
      have c1 : w'.cell? ⟨B, 4, none⟩ = some (.int .i32 (p 4)) := (cell_of_row _ _ 4 _ _ _ hW.2.2.1).trans rfl
      have c2 : w'.cell? ⟨B, 4 + 1, none⟩ = some (.int .i32 (p 5)) := (cell_of_row _ _ 5 _ _ _ hW.2.2.1).trans rfl
      refine pure_op (t := t) (V := fun _ => V8_13 B p a n c) (W := fun _ => W8_13 w0 w1 B R p a0 a n0 c0 n c) (v := .agg #[.int .i32 (p 4), .int .i32 (p 5)]) ?_ rfl (W8_13_next hW (by omega) (Below.refl _ _))
      unfold execOp
      simp only [ho1, hx]
      go_simp
    · have ho1 := at_op (q := Op.call { callee := Callee.value (Operand.func 17), args := #[Operand.tmp 35], argTypes := #[44] }) (by kernel_rfl) ho
      have hx : ac.eval (.tmp 35) = .agg #[.int .i32 (p 4), .int .i32 (p 5)] := hS.arg (p := 7) (d := 35) ho hall (by kernel_rfl) (by kernel_rfl)
      have hrun : (execOp ac.eval o).run Try.prog w' = .ok (.enter 17 #[.agg #[.int .i32 (p 4), .int .i32 (p 5)]]) w' := by
        unfold execOp
        simp only [ho1, List.map_toArray, List.map_cons, List.map_nil, hx]
        go_simp
        simpa [Act.eval] using hx
      refine k_call hrun (R := fun v w2 => v = .agg #[.int .i32 (p 4), .int .i32 (p 5)] ∧ Below w'.heap.size w' w2) ((rng17 _ _ w').mono fun e w2 hh => ⟨_, hh.1, rfl, hh.2⟩) ?_
      rintro v w2 ⟨rfl, hb⟩
      exact ⟨t, rfl, fun _ _ => rfl, W8_13_next hW (by omega) hb⟩
    · have ho1 := at_op (q := Op.move (Operand.tmp 3)) (by kernel_rfl) ho
      have hx : ac.eval (.tmp 3) = .slice a n c := (hS.out (by kernel_rfl)).trans h3
      exact pure_op (t := t) (V := fun _ => V8_13 B p a n c) (W := fun _ => W8_13 w0 w1 B R p a0 a n0 c0 n c) (v := .slice a n c) (k_move _ ho1 hx) rfl (W8_13_next hW (by omega) (Below.refl _ _))
    · have ho1 := at_op (q := Op.build 36 #[(0, Operand.tmp 30), (1, Operand.tmp 33), (2, Operand.tmp 36), (3, Operand.tmp 37)]) (by kernel_rfl) ho
      have hx0 : ac.eval (.tmp 30) = .agg #[.int .i32 (p 0), .int .i32 (p 1)] := hS.arg (p := 2) (d := 30) ho hall (by kernel_rfl) (by kernel_rfl)
      have hx1 : ac.eval (.tmp 33) = .agg #[.int .i32 (p 2), .int .i32 (p 3)] := hS.arg (p := 5) (d := 33) ho hall (by kernel_rfl) (by kernel_rfl)
      have hx2 : ac.eval (.tmp 36) = .agg #[.int .i32 (p 4), .int .i32 (p 5)] := hS.arg (p := 8) (d := 36) ho hall (by kernel_rfl) (by kernel_rfl)
      have hx3 : ac.eval (.tmp 37) = .slice a n c := hS.arg (p := 9) (d := 37) ho hall (by kernel_rfl) (by kernel_rfl)
      refine pure_op (t := t) (V := fun _ => V8_13 B p a n c) (W := fun _ => W8_13 w0 w1 B R p a0 a n0 c0 n c) (k_build 36 _ ho1 (dA p a n c) ?_) rfl (W8_13_next hW (by omega) (Below.refl _ _))
      simp only [List.map_toArray, List.map_cons, List.map_nil, hx0, hx1, hx2, hx3]
      kernel_rfl
    · have ho1 := at_op (q := Op.store 36 (Operand.tmp 2) (Operand.tmp 38)) (by kernel_rfl) ho
      have hd := at_dst (d := none) (by kernel_rfl) ho
      have hx : ac.eval (.tmp 2) = .pointer (some ⟨R, 0, none⟩) := (hS.out (by kernel_rfl)).trans h2
      have hy : ac.eval (.tmp 38) = .agg (dA p a n c) := hS.arg (p := 10) (d := 38) ho hall (by kernel_rfl) (by kernel_rfl)
      have k2 := hW.2.2.2.1
      rw [uf, if_neg Bool.false_ne_true] at k2
      refine wp_store_row 36 _ _ ho1 R _ hx hy 36 _ k2 (by kernel_rfl) rfl (by kernel_rfl) ?_
      refine ⟨t, by rw [hd]; rfl, fun _ _ => rfl, below_setRow hW.1 hR0 _, fun k hk hkR => (setRow_other _ _ _ _ hkR).trans (hW.2.1 k hk hkR), (setRow_other _ _ _ _ hne).trans hW.2.2.1, ?_, by rw [setRow_size]; exact hW.2.2.2.2⟩
      rw [getD_set_same (by omega), if_pos rfl]
      exact setRow_heap _ _ _ _ _ _ k2
  · intro t L ac w' hall hS hW
    have k2 := hW.2.2.2.1
    rw [hall 11 (by rw [size8_13]; omega), if_pos rfl] at k2
    exact hQ ac w' hS.1 ((hS.out (by kernel_rfl)).trans h2) hW.1 hW.2.1 k2 hW.2.2.2.2
end Go.Proofs.Ytjomfebcigiekaa.de
