/-
  Deferred errors: the regions of the law.
-/
import Derived.Test.YtjomfebcigiekaaDh

namespace Go.Proofs.Ytjomfebcigiekaa.de
open Go.ChangeShapes Go.WideShapes Go.ChangeAt Go.RowKit Go.Deep
set_option linter.unusedVariables false
set_option linter.unusedSimpArgs false
set_option linter.unnecessarySimpa false
set_option maxRecDepth 100000
set_option maxHeartbeats 1000000
theorem OwnS.setRow2 {w : World} {E : TypeId} {a : Option Addr} {n c : Nat} {z : Nat → Int} {B R : Nat} {cs : Array Value} (h : OwnS w E a n c z B) (hR : ∀ x, a = some x → x.block ≠ R) : OwnS (w.setRow R cs) E a n c z B := by
  rcases h with h | ⟨g, h1, h2, h3, h4⟩
  · exact .inl h
  · exact .inr ⟨g, h1, h2, h3, h4.of_block (setRow_other _ _ _ _ (hR _ h1))⟩
structure T4 where
  a : Option Addr
  c : Nat
  b : Option Addr
  d : Nat
  x : Option Addr
  e : Nat
  y : Option Addr
  f : Nat
  g1 : Nat
  g2 : Nat
noncomputable def ops4_5 : Array Oper := (Try.f4.body.bind (regOps 5)).getD #[]
theorem size4_5 : ops4_5.size = 12 := by kernel_rfl
noncomputable def V4_5 (p q : Nat → Int) (xa xb : Option Addr) (n ca m cb : Nat) (t : T4) (i : Nat) : Value := if i = 1 then .agg (dA p t.a n t.c) else if i = 3 then .agg (dA q t.b m t.d) else if i = 4 then .tuple #[.agg (dA p t.x n t.e), .agg (dA (mp p q) t.y (m + n) t.f)] else if i = 5 then .tuple #[.agg (dA p t.x n t.e), .agg (dA (mp p q) t.y (m + n) t.f)] else if i = 6 then .agg (dA p t.x n t.e) else if i = 7 then .agg (dA (mp p q) t.y (m + n) t.f) else if i = 8 then .pointer (some ⟨t.g1, 0, none⟩) else if i = 9 then .pointer (some ⟨t.g2, 0, none⟩) else [.agg (dA p xa n ca), undef, .agg (dA q xb m cb), undef, undef, undef, undef, undef, undef, undef, undef, undef].getD i undef
def W4_5 (w1 : World) (A1 A2 : Nat) (p q : Nat → Int) (za zb : Nat → Int) (xa xb : Option Addr) (n ca m cb : Nat) (t : T4) (L : Array Bool) (w' : World) : Prop := Below w1.heap.size w1 w' ∧ (L.getD 1 false = true → L.getD 4 false = false → OwnS w' 33 t.a n t.c za w1.heap.size) ∧ (L.getD 3 false = true → L.getD 4 false = false → OwnS w' 33 t.b m t.d zb w1.heap.size) ∧ (L.getD 4 false = true → OwnS w' 33 t.y (m + n) t.f (cat zb m za) w1.heap.size) ∧ (L.getD 8 false = true → w1.heap.size ≤ t.g1 ∧ w'.heap[t.g1]? = some (.cells (if L.getD 10 false = true then dA p t.x n t.e else #[.int .i32 0, .int .i32 0, .int .i32 0, .int .i32 0, .int .i32 0, .int .i32 0, .slice none 0 0]) 36 (0, 0)) ∧ (L.getD 4 false = true → ∀ x, t.y = some x → x.block ≠ t.g1)) ∧ (L.getD 9 false = true → w1.heap.size ≤ t.g2 ∧ w'.heap[t.g2]? = some (.cells (if L.getD 11 false = true then dA (mp p q) t.y (m + n) t.f else #[.int .i32 0, .int .i32 0, .int .i32 0, .int .i32 0, .int .i32 0, .int .i32 0, .slice none 0 0]) 36 (0, 0)) ∧ (L.getD 4 false = true → ∀ x, t.y = some x → x.block ≠ t.g2)) ∧ (L.getD 8 false = true → L.getD 9 false = true → t.g1 ≠ t.g2) ∧ (L.getD 10 false = true → L.getD 4 false = true ∧ L.getD 8 false = true) ∧ (L.getD 11 false = true → L.getD 4 false = true ∧ L.getD 9 false = true) ∧ (∀ j, j = 5 ∨ j = 6 ∨ j = 7 → L.getD j false = true → L.getD 4 false = true)
section
variable {w1 : World} {A1 A2 : Nat} {p q : Nat → Int} {za zb : Nat → Int} {xa xb : Option Addr} {n ca m cb : Nat} {t : T4} {L : Array Bool} {w' w2 : World} {i : Nat}
theorem W4_5.next (h : W4_5 w1 A1 A2 p q za zb xa xb n ca m cb t L w') (h1 : i ≠ 1) (h3 : i ≠ 3) (h4 : i ≠ 4) (h8 : i ≠ 8) (h9 : i ≠ 9) (h10 : i ≠ 10) (h11 : i ≠ 11) (hc : i = 5 ∨ i = 6 ∨ i = 7 → L.getD 4 false = true) (hb : Below w'.heap.size w' w2) : W4_5 w1 A1 A2 p q za zb xa xb n ca m cb t (L.setIfInBounds i true) w2 := by
  unfold W4_5
  rw [getD_set_other h1, getD_set_other h3, getD_set_other h4, getD_set_other h8, getD_set_other h9, getD_set_other h10, getD_set_other h11]
  obtain ⟨a1, a2, a3, a4, a5, a6, a7, a8, a9, a10⟩ := h
  refine ⟨a1.trans (hb.mono a1.size), fun x y => (a2 x y).below hb, fun x y => (a3 x y).below hb, fun x => (a4 x).below hb, fun x => ?_, fun x => ?_, a7, a8, a9, fun j hj hL => ?_⟩
  · obtain ⟨b1, b2, b3⟩ := a5 x
    exact ⟨b1, (hb.block _ (lt_of_block b2)).trans b2, b3⟩
  · obtain ⟨b1, b2, b3⟩ := a6 x
    exact ⟨b1, (hb.block _ (lt_of_block b2)).trans b2, b3⟩
  · by_cases e : i = j
    · subst e; exact hc hj
    · rw [getD_set_other e] at hL; exact a10 j hj hL
theorem W4_5.c1 {a' : Option Addr} {c' : Nat} (h : W4_5 w1 A1 A2 p q za zb xa xb n ca m cb t L w') (hs : L.size = 12) (hb : Below w'.heap.size w' w2) (ho : OwnS w2 33 a' n c' za w'.heap.size) : W4_5 w1 A1 A2 p q za zb xa xb n ca m cb { t with a := a', c := c' } (L.setIfInBounds 1 true) w2 := by
  unfold W4_5
  rw [getD_set_same (i := 1) (by omega), getD_set_other (i := 1) (j := 3) (by omega), getD_set_other (i := 1) (j := 4) (by omega), getD_set_other (i := 1) (j := 8) (by omega), getD_set_other (i := 1) (j := 9) (by omega), getD_set_other (i := 1) (j := 10) (by omega), getD_set_other (i := 1) (j := 11) (by omega)]
  obtain ⟨a1, a2, a3, a4, a5, a6, a7, a8, a9, a10⟩ := h
  exact ⟨a1.trans (hb.mono a1.size), fun _ _ => ho.base a1.size, fun x y => (a3 x y).below hb, fun x => (a4 x).below hb, (fun x => ⟨(a5 x).1, (hb.block _ (lt_of_block (a5 x).2.1)).trans (a5 x).2.1, (a5 x).2.2⟩), (fun x => ⟨(a6 x).1, (hb.block _ (lt_of_block (a6 x).2.1)).trans (a6 x).2.1, (a6 x).2.2⟩), a7, a8, a9, (fun j hj hL => a10 j hj (by rwa [getD_set_other (by omega)] at hL))⟩
theorem W4_5.c2 {a' : Option Addr} {c' : Nat} (h : W4_5 w1 A1 A2 p q za zb xa xb n ca m cb t L w') (hs : L.size = 12) (hb : Below w'.heap.size w' w2) (ho : OwnS w2 33 a' m c' zb w'.heap.size) : W4_5 w1 A1 A2 p q za zb xa xb n ca m cb { t with b := a', d := c' } (L.setIfInBounds 3 true) w2 := by
  unfold W4_5
  rw [getD_set_same (i := 3) (by omega), getD_set_other (i := 3) (j := 1) (by omega), getD_set_other (i := 3) (j := 4) (by omega), getD_set_other (i := 3) (j := 8) (by omega), getD_set_other (i := 3) (j := 9) (by omega), getD_set_other (i := 3) (j := 10) (by omega), getD_set_other (i := 3) (j := 11) (by omega)]
  obtain ⟨a1, a2, a3, a4, a5, a6, a7, a8, a9, a10⟩ := h
  exact ⟨a1.trans (hb.mono a1.size), fun x y => (a2 x y).below hb, fun _ _ => ho.base a1.size, fun x => (a4 x).below hb, (fun x => ⟨(a5 x).1, (hb.block _ (lt_of_block (a5 x).2.1)).trans (a5 x).2.1, (a5 x).2.2⟩), (fun x => ⟨(a6 x).1, (hb.block _ (lt_of_block (a6 x).2.1)).trans (a6 x).2.1, (a6 x).2.2⟩), a7, a8, a9, (fun j hj hL => a10 j hj (by rwa [getD_set_other (by omega)] at hL))⟩
theorem W4_5.c7 {x' y' : Option Addr} {e' f' : Nat} (h : W4_5 w1 A1 A2 p q za zb xa xb n ca m cb t L w') (hs : L.size = 12) (hu : L.getD 4 false = false) (hb : Below w'.heap.size w' w2) (ho : OwnS w2 33 y' (m + n) f' (cat zb m za) w'.heap.size) : W4_5 w1 A1 A2 p q za zb xa xb n ca m cb { t with x := x', e := e', y := y', f := f' } (L.setIfInBounds 4 true) w2 := by
  unfold W4_5
  rw [getD_set_same (i := 4) (by omega), getD_set_other (i := 4) (j := 1) (by omega), getD_set_other (i := 4) (j := 3) (by omega), getD_set_other (i := 4) (j := 8) (by omega), getD_set_other (i := 4) (j := 9) (by omega), getD_set_other (i := 4) (j := 10) (by omega), getD_set_other (i := 4) (j := 11) (by omega)]
  obtain ⟨a1, a2, a3, a4, a5, a6, a7, a8, a9, a10⟩ := h
  have n10 : L.getD 10 false = false := by
    cases e : L.getD 10 false
    · rfl
    · have := (a8 e).1; rw [hu] at this; cases this
  have n11 : L.getD 11 false = false := by
    cases e : L.getD 11 false
    · rfl
    · have := (a9 e).1; rw [hu] at this; cases this
  rw [n10, if_neg Bool.false_ne_true] at a5 ⊢
  rw [n11, if_neg Bool.false_ne_true] at a6 ⊢
  refine ⟨a1.trans (hb.mono a1.size), (fun _ x => by cases x), (fun _ x => by cases x), fun _ => ho.base a1.size, fun x => ?_, fun x => ?_, a7, fun x => ?_, fun x => ?_, fun _ _ _ => rfl⟩
  · obtain ⟨b1, b2, b3⟩ := a5 x
    exact ⟨b1, (hb.block _ (lt_of_block b2)).trans b2, fun _ y hy => by have := ho.ge y hy; have := lt_of_block b2; show y.block ≠ t.g1; omega⟩
  · obtain ⟨b1, b2, b3⟩ := a6 x
    exact ⟨b1, (hb.block _ (lt_of_block b2)).trans b2, fun _ y hy => by have := ho.ge y hy; have := lt_of_block b2; show y.block ≠ t.g2; omega⟩
  · first | (rw [n10] at x; cases x) | cases x
  · first | (rw [n11] at x; cases x) | cases x
theorem W4_5.al8 (h : W4_5 w1 A1 A2 p q za zb xa xb n ca m cb t L w') (hs : L.size = 12) (hu : L.getD 8 false = false) : W4_5 w1 A1 A2 p q za zb xa xb n ca m cb { t with g1 := w'.heap.size } (L.setIfInBounds 8 true) (w'.alloc (.cells #[.int .i32 0, .int .i32 0, .int .i32 0, .int .i32 0, .int .i32 0, .int .i32 0, .slice none 0 0] 36)) := by
  have hb : Below w'.heap.size w' (w'.alloc (.cells #[.int .i32 0, .int .i32 0, .int .i32 0, .int .i32 0, .int .i32 0, .int .i32 0, .slice none 0 0] 36)) := (Below.refl _ _).alloc (Nat.le_refl _) _
  unfold W4_5
  rw [getD_set_same (i := 8) (by omega), getD_set_other (i := 8) (j := 1) (by omega), getD_set_other (i := 8) (j := 3) (by omega), getD_set_other (i := 8) (j := 4) (by omega), getD_set_other (i := 8) (j := 9) (by omega), getD_set_other (i := 8) (j := 10) (by omega), getD_set_other (i := 8) (j := 11) (by omega)]
  obtain ⟨a1, a2, a3, a4, a5, a6, a7, a8, a9, a10⟩ := h
  have n10 : L.getD 10 false = false := by
    cases e : L.getD 10 false
    · rfl
    · have := (a8 e).2; rw [hu] at this; cases this
  rw [n10, if_neg Bool.false_ne_true]
  exact ⟨a1.trans (hb.mono a1.size), fun x y => (a2 x y).below hb, fun x y => (a3 x y).below hb, fun x => (a4 x).below hb, (fun _ => ⟨a1.size, heap_alloc_new _ _, fun z y hy => by have := (a4 z).lt y hy; show y.block ≠ w'.heap.size; omega⟩), (fun x => ⟨(a6 x).1, (hb.block _ (lt_of_block (a6 x).2.1)).trans (a6 x).2.1, (a6 x).2.2⟩), fun _ x => by have := lt_of_block (a6 x).2.1; show w'.heap.size ≠ t.g2; omega, (fun x => by cases x), a9, (fun j hj hL => a10 j hj (by rwa [getD_set_other (by omega)] at hL))⟩
theorem W4_5.al9 (h : W4_5 w1 A1 A2 p q za zb xa xb n ca m cb t L w') (hs : L.size = 12) (hu : L.getD 9 false = false) : W4_5 w1 A1 A2 p q za zb xa xb n ca m cb { t with g2 := w'.heap.size } (L.setIfInBounds 9 true) (w'.alloc (.cells #[.int .i32 0, .int .i32 0, .int .i32 0, .int .i32 0, .int .i32 0, .int .i32 0, .slice none 0 0] 36)) := by
  have hb : Below w'.heap.size w' (w'.alloc (.cells #[.int .i32 0, .int .i32 0, .int .i32 0, .int .i32 0, .int .i32 0, .int .i32 0, .slice none 0 0] 36)) := (Below.refl _ _).alloc (Nat.le_refl _) _
  unfold W4_5
  rw [getD_set_same (i := 9) (by omega), getD_set_other (i := 9) (j := 1) (by omega), getD_set_other (i := 9) (j := 3) (by omega), getD_set_other (i := 9) (j := 4) (by omega), getD_set_other (i := 9) (j := 8) (by omega), getD_set_other (i := 9) (j := 10) (by omega), getD_set_other (i := 9) (j := 11) (by omega)]
  obtain ⟨a1, a2, a3, a4, a5, a6, a7, a8, a9, a10⟩ := h
  have n11 : L.getD 11 false = false := by
    cases e : L.getD 11 false
    · rfl
    · have := (a9 e).2; rw [hu] at this; cases this
  rw [n11, if_neg Bool.false_ne_true]
  exact ⟨a1.trans (hb.mono a1.size), fun x y => (a2 x y).below hb, fun x y => (a3 x y).below hb, fun x => (a4 x).below hb, (fun x => ⟨(a5 x).1, (hb.block _ (lt_of_block (a5 x).2.1)).trans (a5 x).2.1, (a5 x).2.2⟩), (fun _ => ⟨a1.size, heap_alloc_new _ _, fun z y hy => by have := (a4 z).lt y hy; show y.block ≠ w'.heap.size; omega⟩), fun x _ => by have := lt_of_block (a5 x).2.1; show t.g1 ≠ w'.heap.size; omega, a8, (fun x => by cases x), (fun j hj hL => a10 j hj (by rwa [getD_set_other (by omega)] at hL))⟩
theorem W4_5.st10 (h : W4_5 w1 A1 A2 p q za zb xa xb n ca m cb t L w') (hs : L.size = 12) (k7 : L.getD 4 false = true) (kg : L.getD 8 false = true) : W4_5 w1 A1 A2 p q za zb xa xb n ca m cb t (L.setIfInBounds 10 true) (w'.setRow t.g1 (dA p t.x n t.e)) := by
  unfold W4_5
  rw [getD_set_same (i := 10) (by omega), getD_set_other (i := 10) (j := 1) (by omega), getD_set_other (i := 10) (j := 3) (by omega), getD_set_other (i := 10) (j := 4) (by omega), getD_set_other (i := 10) (j := 8) (by omega), getD_set_other (i := 10) (j := 9) (by omega), getD_set_other (i := 10) (j := 11) (by omega)]
  obtain ⟨a1, a2, a3, a4, a5, a6, a7, a8, a9, a10⟩ := h
  obtain ⟨b1, b2, b3⟩ := a5 kg
  refine ⟨below_setRow a1 b1 _, (fun _ x => by rw [k7] at x; cases x), (fun _ x => by rw [k7] at x; cases x), fun x => (a4 x).setRow2 (b3 k7), fun _ => ⟨b1, ?_, b3⟩, fun x => ⟨(a6 x).1, (setRow_other _ _ _ _ (Ne.symm (a7 kg x))).trans (a6 x).2.1, (a6 x).2.2⟩, a7, fun _ => ⟨k7, kg⟩, a9, (fun j hj hL => a10 j hj (by rwa [getD_set_other (by omega)] at hL))⟩
  rw [if_pos rfl]
  exact setRow_heap _ _ _ _ _ _ b2
theorem W4_5.st11 (h : W4_5 w1 A1 A2 p q za zb xa xb n ca m cb t L w') (hs : L.size = 12) (k7 : L.getD 4 false = true) (kg : L.getD 9 false = true) : W4_5 w1 A1 A2 p q za zb xa xb n ca m cb t (L.setIfInBounds 11 true) (w'.setRow t.g2 (dA (mp p q) t.y (m + n) t.f)) := by
  unfold W4_5
  rw [getD_set_same (i := 11) (by omega), getD_set_other (i := 11) (j := 1) (by omega), getD_set_other (i := 11) (j := 3) (by omega), getD_set_other (i := 11) (j := 4) (by omega), getD_set_other (i := 11) (j := 8) (by omega), getD_set_other (i := 11) (j := 9) (by omega), getD_set_other (i := 11) (j := 10) (by omega)]
  obtain ⟨a1, a2, a3, a4, a5, a6, a7, a8, a9, a10⟩ := h
  obtain ⟨b1, b2, b3⟩ := a6 kg
  refine ⟨below_setRow a1 b1 _, (fun _ x => by rw [k7] at x; cases x), (fun _ x => by rw [k7] at x; cases x), fun x => (a4 x).setRow2 (b3 k7), fun x => ⟨(a5 x).1, (setRow_other _ _ _ _ (a7 x kg)).trans (a5 x).2.1, (a5 x).2.2⟩, fun _ => ⟨b1, ?_, b3⟩, a7, a8, fun _ => ⟨k7, kg⟩, (fun j hj hL => a10 j hj (by rwa [getD_set_other (by omega)] at hL))⟩
  rw [if_pos rfl]
  exact setRow_heap _ _ _ _ _ _ b2
end
theorem reg4_5 {id : Nat} {a00 : Act} {Q : Exit → Act → World → Prop} (w1 : World) (A1 A2 : Nat) (p q : Nat → Int) (za zb : Nat → Int) (xa xb : Option Addr) (n ca m cb : Nat) (hs : a00.tmps.size = 69)
    (hp1 : a00.eval (.tmp 3) = .pointer (some ⟨A1, 0, none⟩)) (hp2 : a00.eval (.tmp 5) = .pointer (some ⟨A2, 0, none⟩)) (hA : w1.heap[A1]? = some (.cells (dA p xa n ca) 31 (0, 0))) (hB : w1.heap[A2]? = some (.cells (dA q xb m cb) 31 (0, 0)))
    (hn : n ≤ 65536) (hm : m ≤ 65536) (ha : Row w1 xa (n * 2) (zc za)) (hb : Row w1 xb (m * 2) (zc zb)) (hna : xa = none → n = 0 ∧ ca = 0) (hnb : xb = none → m = 0 ∧ cb = 0)
    (hQ : ∀ (a' : Act) (w' : World) (t : T4), a'.defers = a00.defers → a'.tmps.size = 69 → (∀ d, outB ops4_5 d = true → a'.eval (.tmp d) = a00.eval (.tmp d)) → a'.eval (.tmp 8) = .pointer (some ⟨t.g2, 0, none⟩) → Below w1.heap.size w1 w' → OwnS w' 33 t.y (m + n) t.f (cat zb m za) w1.heap.size → w'.heap[t.g2]? = some (.cells (dA (mp p q) t.y (m + n) t.f) 36 (0, 0)) → Q .normal a' w') :
    (Code.region id ops4_5 true).wp Try.prog Q a00 w1 := by
  refine wp_region_sl (Θ := T4) (by kernel_rfl) (fun t => V4_5 p q xa xb n ca m cb t) (fun t => W4_5 w1 A1 A2 p q za zb xa xb n ca m cb t) (by kernel_rfl) (by rw [hs]; kernel_rfl) ⟨none, 0, none, 0, none, 0, none, 0, 0, 0⟩ ?_ ?_ ?_
  · have hf : ∀ j, (Array.replicate ops4_5.size false).getD j false = false := fun j => by
      rw [Array.getD_eq_getD_getElem?, Array.getElem?_replicate]
      split <;> rfl
    unfold W4_5
    simp only [hf]
    exact ⟨(Below.refl _ _).drew, (fun x => by cases x), (fun x => by cases x), (fun x => by cases x), (fun x => by cases x), (fun x => by cases x), (fun x => by cases x), (fun x => by cases x), (fun x => by cases x), (fun _ _ x => by cases x)⟩
  · intro i o t L ac w' ho hL hu hall hS hW
    have hi : i < 12 := by rw [← size4_5]; exact (Array.getElem?_eq_some_iff.1 ho).1
    have hLs : L.size = 12 := by rw [hL]; exact size4_5
    have uf := getD_false_of_unlisted hu
    have rcs : i = 0 ∨ i = 1 ∨ i = 2 ∨ i = 3 ∨ i = 4 ∨ i = 5 ∨ i = 6 ∨ i = 7 ∨ i = 8 ∨ i = 9 ∨ i = 10 ∨ i = 11 := by omega
    rcases rcs with rfl | rfl | rfl | rfl | rfl | rfl | rfl | rfl | rfl | rfl | rfl | rfl
    · have ho1 := at_op (q := Op.load 31 (Operand.tmp 3)) (by kernel_rfl) ho
      have hx : ac.eval (.tmp 3) = .pointer (some ⟨A1, 0, none⟩) := (hS.out (by kernel_rfl)).trans hp1
      exact wp_load_row 31 _ ho1 A1 hx 31 (dA p xa n ca) (0, 0) _ (blk hA hW.1) Try.underlying31 rfl (by kernel_rfl) ⟨t, rfl, fun _ _ => rfl, (hW.next (i := 0) (by omega) (by omega) (by omega) (by omega) (by omega) (by omega) (by omega) (fun h => absurd h (by omega)) (Below.refl _ _))⟩
    · have ho1 := at_op (q := Op.call { callee := Callee.value (Operand.func 8), args := #[Operand.tmp 37], argTypes := #[31] }) (by kernel_rfl) ho
      have hx : ac.eval (.tmp 37) = .agg (dA p xa n ca) := hS.arg (p := 0) (d := 37) ho hall (by kernel_rfl) (by kernel_rfl)
      have hrun : (execOp ac.eval o).run Try.prog w' = .ok (.enter 8 #[.agg (dA p xa n ca)]) w' := by
        unfold execOp
        simp only [ho1, List.map_toArray, List.map_cons, List.map_nil, hx]
        go_simp
        simpa [Act.eval] using hx
      refine k_call hrun (R := fun v w2 => ∃ a' c', v = .agg (dA p a' n c') ∧ Below w'.heap.size w' w2 ∧ OwnS w2 33 a' n c' za w'.heap.size) ((conv8 w' p za _ n _ (by omega) (ha.below hW.1) hna).mono fun e w2 ⟨a', c', h1, h2, h3⟩ => ⟨_, h1, a', c', rfl, h2, h3⟩) ?_
      rintro v w2 ⟨a', c', rfl, hb2, hown⟩
      refine ⟨{ t with a := a', c := c' }, rfl, fun j hj => ?_, hW.c1 hLs hb2 hown⟩
      have hj1 : j ≠ 1 := fun h => by rw [h, uf] at hj; cases hj
      unfold V4_5
      simp only [if_neg hj1]
    · have ho1 := at_op (q := Op.load 31 (Operand.tmp 5)) (by kernel_rfl) ho
      have hx : ac.eval (.tmp 5) = .pointer (some ⟨A2, 0, none⟩) := (hS.out (by kernel_rfl)).trans hp2
      exact wp_load_row 31 _ ho1 A2 hx 31 (dA q xb m cb) (0, 0) _ (blk hB hW.1) Try.underlying31 rfl (by kernel_rfl) ⟨t, rfl, fun _ _ => rfl, (hW.next (i := 2) (by omega) (by omega) (by omega) (by omega) (by omega) (by omega) (by omega) (fun h => absurd h (by omega)) (Below.refl _ _))⟩
    · have ho1 := at_op (q := Op.call { callee := Callee.value (Operand.func 8), args := #[Operand.tmp 39], argTypes := #[31] }) (by kernel_rfl) ho
      have hx : ac.eval (.tmp 39) = .agg (dA q xb m cb) := hS.arg (p := 2) (d := 39) ho hall (by kernel_rfl) (by kernel_rfl)
      have hrun : (execOp ac.eval o).run Try.prog w' = .ok (.enter 8 #[.agg (dA q xb m cb)]) w' := by
        unfold execOp
        simp only [ho1, List.map_toArray, List.map_cons, List.map_nil, hx]
        go_simp
        simpa [Act.eval] using hx
      refine k_call hrun (R := fun v w2 => ∃ a' c', v = .agg (dA q a' m c') ∧ Below w'.heap.size w' w2 ∧ OwnS w2 33 a' m c' zb w'.heap.size) ((conv8 w' q zb _ m _ (by omega) (hb.below hW.1) hnb).mono fun e w2 ⟨a', c', h1, h2, h3⟩ => ⟨_, h1, a', c', rfl, h2, h3⟩) ?_
      rintro v w2 ⟨a', c', rfl, hb2, hown⟩
      refine ⟨{ t with b := a', d := c' }, rfl, fun j hj => ?_, hW.c2 hLs hb2 hown⟩
      have hj1 : j ≠ 3 := fun h => by rw [h, uf] at hj; cases hj
      unfold V4_5
      simp only [if_neg hj1]
    · have ho1 := at_op (q := Op.call { callee := Callee.value (Operand.func 7), args := #[Operand.tmp 38, Operand.tmp 40], argTypes := #[36, 36] }) (by kernel_rfl) ho
      have hx : ac.eval (.tmp 38) = .agg (dA p t.a n t.c) := hS.arg (p := 1) (d := 38) ho hall (by kernel_rfl) (by kernel_rfl)
      have hy : ac.eval (.tmp 40) = .agg (dA q t.b m t.d) := hS.arg (p := 3) (d := 40) ho hall (by kernel_rfl) (by kernel_rfl)
      have hrun : (execOp ac.eval o).run Try.prog w' = .ok (.enter 7 #[.agg (dA p t.a n t.c), .agg (dA q t.b m t.d)]) w' := by
        unfold execOp
        simp only [ho1, List.map_toArray, List.map_cons, List.map_nil, hx, hy]
        go_simp
        exact ⟨by simpa [Act.eval] using hx, by simpa [Act.eval] using hy⟩
      refine k_call hrun (R := fun v w2 => ∃ a c b d, v = .tuple #[.agg (dA p a n c), .agg (dA (mp p q) b (m + n) d)] ∧ OwnS w2 33 b (m + n) d (cat zb m za) w'.heap.size ∧ Below w'.heap.size w' w2) ((merge7 w' p q za zb _ _ n _ m _ hn hm (hW.2.1 (dep_listed (p := 1) (by kernel_rfl) ho hall) uf).row (hW.2.2.1 (dep_listed (p := 3) (by kernel_rfl) ho hall) uf).row (hW.2.1 (dep_listed (p := 1) (by kernel_rfl) ho hall) uf).nil (hW.2.2.1 (dep_listed (p := 3) (by kernel_rfl) ho hall) uf).nil).mono fun e w2 ⟨a, c, b, d, h1, h2, h3⟩ => ⟨_, h1, a, c, b, d, rfl, h2, h3⟩) ?_
      rintro v w2 ⟨x', e', y', f', rfl, hown, hb2⟩
      refine ⟨{ t with x := x', e := e', y := y', f := f' }, rfl, fun j hj => ?_, hW.c7 hLs uf hb2 hown⟩
      have hj1 : j ≠ 4 := fun h => by rw [h, uf] at hj; cases hj
      have hj2 : j ≠ 5 := fun h => by have := hW.2.2.2.2.2.2.2.2.2 j (by omega) hj; rw [uf] at this; cases this
      have hj3 : j ≠ 6 := fun h => by have := hW.2.2.2.2.2.2.2.2.2 j (by omega) hj; rw [uf] at this; cases this
      have hj4 : j ≠ 7 := fun h => by have := hW.2.2.2.2.2.2.2.2.2 j (by omega) hj; rw [uf] at this; cases this
      unfold V4_5
      simp only [if_neg hj1, if_neg hj2, if_neg hj3, if_neg hj4]
    · have ho1 := at_op (q := Op.move (Operand.tmp 41)) (by kernel_rfl) ho
      have hx : ac.eval (.tmp 41) = .tuple #[.agg (dA p t.x n t.e), .agg (dA (mp p q) t.y (m + n) t.f)] := hS.arg (p := 4) (d := 41) ho hall (by kernel_rfl) (by kernel_rfl)
      exact pure_op (t := t) (V := fun t => V4_5 p q xa xb n ca m cb t) (W := fun t => W4_5 w1 A1 A2 p q za zb xa xb n ca m cb t) (v := .tuple #[.agg (dA p t.x n t.e), .agg (dA (mp p q) t.y (m + n) t.f)]) (k_move _ ho1 hx) rfl (hW.next (i := 5) (by omega) (by omega) (by omega) (by omega) (by omega) (by omega) (by omega) (fun _ => dep_listed (p := 4) (by kernel_rfl) ho hall) (Below.refl _ _))
    · have ho1 := at_op (q := Op.extract (Operand.tmp 36) 0) (by kernel_rfl) ho
      have hx : ac.eval (.tmp 36) = .tuple #[.agg (dA p t.x n t.e), .agg (dA (mp p q) t.y (m + n) t.f)] := hS.arg (p := 5) (d := 36) ho hall (by kernel_rfl) (by kernel_rfl)
      refine pure_op (t := t) (V := fun t => V4_5 p q xa xb n ca m cb t) (W := fun t => W4_5 w1 A1 A2 p q za zb xa xb n ca m cb t) (v := .agg (dA p t.x n t.e)) ?_ rfl (hW.next (i := 6) (by omega) (by omega) (by omega) (by omega) (by omega) (by omega) (by omega) (fun _ => hW.2.2.2.2.2.2.2.2.2 5 (.inl rfl) (dep_listed (p := 5) (by kernel_rfl) ho hall)) (Below.refl _ _))
      unfold execOp
      simp only [ho1, hx]
      go_simp
    · have ho1 := at_op (q := Op.extract (Operand.tmp 36) 1) (by kernel_rfl) ho
      have hx : ac.eval (.tmp 36) = .tuple #[.agg (dA p t.x n t.e), .agg (dA (mp p q) t.y (m + n) t.f)] := hS.arg (p := 5) (d := 36) ho hall (by kernel_rfl) (by kernel_rfl)
      refine pure_op (t := t) (V := fun t => V4_5 p q xa xb n ca m cb t) (W := fun t => W4_5 w1 A1 A2 p q za zb xa xb n ca m cb t) (v := .agg (dA (mp p q) t.y (m + n) t.f)) ?_ rfl (hW.next (i := 7) (by omega) (by omega) (by omega) (by omega) (by omega) (by omega) (by omega) (fun _ => hW.2.2.2.2.2.2.2.2.2 5 (.inl rfl) (dep_listed (p := 5) (by kernel_rfl) ho hall)) (Below.refl _ _))
      unfold execOp
      simp only [ho1, hx]
      go_simp
    · have ho1 := at_op (q := Op.alloc 36) (by kernel_rfl) ho
      have hrun : (execOp ac.eval o).run Try.prog w' = .ok (.value (.pointer (some ⟨w'.heap.size, 0, none⟩))) (w'.alloc (.cells #[.int .i32 0, .int .i32 0, .int .i32 0, .int .i32 0, .int .i32 0, .int .i32 0, .slice none 0 0] 36)) := by
        unfold execOp
        simp only [ho1]
        go_simp
      unfold Oper.wp
      rw [hrun, Oper.upon_value]
      refine ⟨{ t with g1 := w'.heap.size }, rfl, fun j hj => ?_, hW.al8 hLs uf⟩
      have hj1 : j ≠ 8 := fun h => by rw [h, uf] at hj; cases hj
      unfold V4_5
      simp only [if_neg hj1]
    · have ho1 := at_op (q := Op.alloc 36) (by kernel_rfl) ho
      have hrun : (execOp ac.eval o).run Try.prog w' = .ok (.value (.pointer (some ⟨w'.heap.size, 0, none⟩))) (w'.alloc (.cells #[.int .i32 0, .int .i32 0, .int .i32 0, .int .i32 0, .int .i32 0, .int .i32 0, .slice none 0 0] 36)) := by
        unfold execOp
        simp only [ho1]
        go_simp
      unfold Oper.wp
      rw [hrun, Oper.upon_value]
      refine ⟨{ t with g2 := w'.heap.size }, rfl, fun j hj => ?_, hW.al9 hLs uf⟩
      have hj1 : j ≠ 9 := fun h => by rw [h, uf] at hj; cases hj
      unfold V4_5
      simp only [if_neg hj1]
    · have ho1 := at_op (q := Op.store 36 (Operand.tmp 7) (Operand.tmp 42)) (by kernel_rfl) ho
      have hd := at_dst (d := none) (by kernel_rfl) ho
      have hx : ac.eval (.tmp 7) = .pointer (some ⟨t.g1, 0, none⟩) := hS.arg (p := 8) (d := 7) ho hall (by kernel_rfl) (by kernel_rfl)
      have hy : ac.eval (.tmp 42) = .agg (dA p t.x n t.e) := hS.arg (p := 6) (d := 42) ho hall (by kernel_rfl) (by kernel_rfl)
      have kg := dep_listed (p := 8) (by kernel_rfl) ho hall
      have k7 := (dep_listed (p := 4) (by kernel_rfl) ho hall)
      obtain ⟨b1, b2, b3⟩ := hW.2.2.2.2.1 kg
      rw [uf, if_neg Bool.false_ne_true] at b2
      exact wp_store_row 36 _ _ ho1 t.g1 _ hx hy 36 _ b2 (by kernel_rfl) rfl (by kernel_rfl) ⟨t, by rw [hd]; rfl, fun _ _ => rfl, hW.st10 hLs k7 kg⟩
    · have ho1 := at_op (q := Op.store 36 (Operand.tmp 8) (Operand.tmp 43)) (by kernel_rfl) ho
      have hd := at_dst (d := none) (by kernel_rfl) ho
      have hx : ac.eval (.tmp 8) = .pointer (some ⟨t.g2, 0, none⟩) := hS.arg (p := 9) (d := 8) ho hall (by kernel_rfl) (by kernel_rfl)
      have hy : ac.eval (.tmp 43) = .agg (dA (mp p q) t.y (m + n) t.f) := hS.arg (p := 7) (d := 43) ho hall (by kernel_rfl) (by kernel_rfl)
      have kg := dep_listed (p := 9) (by kernel_rfl) ho hall
      have k7 := (hW.2.2.2.2.2.2.2.1 (dep_listed (p := 10) (by kernel_rfl) ho hall)).1
      obtain ⟨b1, b2, b3⟩ := hW.2.2.2.2.2.1 kg
      rw [uf, if_neg Bool.false_ne_true] at b2
      exact wp_store_row 36 _ _ ho1 t.g2 _ hx hy 36 _ b2 (by kernel_rfl) rfl (by kernel_rfl) ⟨t, by rw [hd]; rfl, fun _ _ => rfl, hW.st11 hLs k7 kg⟩
  · intro t L ac w' hall hS hW
    have k1 := hall 9 (by rw [size4_5]; omega)
    obtain ⟨b1, b2, b3⟩ := hW.2.2.2.2.2.1 k1
    rw [hall 11 (by rw [size4_5]; omega), if_pos rfl] at b2
    exact hQ ac w' t hS.1 (hS.2.1.trans hs) (fun d hd => hS.out hd) (hS.2.2.2 9 8 k1 (by kernel_rfl)) hW.1 (hW.2.2.2.1 (hall 4 (by rw [size4_5]; omega))) b2
noncomputable def ops4_6 : Array Oper := (Try.f4.body.bind (regOps 6)).getD #[]
theorem size4_6 : ops4_6.size = 11 := by kernel_rfl
noncomputable def V4_6 (p q : Nat → Int) (xa xb : Option Addr) (n ca m cb : Nat) (t : T4) (i : Nat) : Value := if i = 1 then .agg (dA p t.a n t.c) else if i = 3 then .tuple #[.agg (dA p t.x n t.e), .agg (dA (mp p q) t.y (m + n) t.f)] else if i = 4 then .tuple #[.agg (dA p t.x n t.e), .agg (dA (mp p q) t.y (m + n) t.f)] else if i = 5 then .agg (dA p t.x n t.e) else if i = 6 then .agg (dA (mp p q) t.y (m + n) t.f) else if i = 7 then .pointer (some ⟨t.g1, 0, none⟩) else if i = 8 then .pointer (some ⟨t.g2, 0, none⟩) else [.agg (dA p xa n ca), undef, .agg (dA q xb m cb), undef, undef, undef, undef, undef, undef, undef, undef].getD i undef
def W4_6 (w1 : World) (A1 A2 : Nat) (p q : Nat → Int) (za zb : Nat → Int) (xa xb : Option Addr) (n ca m cb : Nat) (t : T4) (L : Array Bool) (w' : World) : Prop := Below w1.heap.size w1 w' ∧ (L.getD 1 false = true → L.getD 3 false = false → OwnS w' 33 t.a n t.c za w1.heap.size) ∧ True ∧ (L.getD 3 false = true → OwnS w' 33 t.y (m + n) t.f (cat zb m za) w1.heap.size) ∧ (L.getD 7 false = true → w1.heap.size ≤ t.g1 ∧ w'.heap[t.g1]? = some (.cells (if L.getD 9 false = true then dA p t.x n t.e else #[.int .i32 0, .int .i32 0, .int .i32 0, .int .i32 0, .int .i32 0, .int .i32 0, .slice none 0 0]) 36 (0, 0)) ∧ (L.getD 3 false = true → ∀ x, t.y = some x → x.block ≠ t.g1)) ∧ (L.getD 8 false = true → w1.heap.size ≤ t.g2 ∧ w'.heap[t.g2]? = some (.cells (if L.getD 10 false = true then dA (mp p q) t.y (m + n) t.f else #[.int .i32 0, .int .i32 0, .int .i32 0, .int .i32 0, .int .i32 0, .int .i32 0, .slice none 0 0]) 36 (0, 0)) ∧ (L.getD 3 false = true → ∀ x, t.y = some x → x.block ≠ t.g2)) ∧ (L.getD 7 false = true → L.getD 8 false = true → t.g1 ≠ t.g2) ∧ (L.getD 9 false = true → L.getD 3 false = true ∧ L.getD 7 false = true) ∧ (L.getD 10 false = true → L.getD 3 false = true ∧ L.getD 8 false = true) ∧ (∀ j, j = 4 ∨ j = 5 ∨ j = 6 → L.getD j false = true → L.getD 3 false = true)
section
variable {w1 : World} {A1 A2 : Nat} {p q : Nat → Int} {za zb : Nat → Int} {xa xb : Option Addr} {n ca m cb : Nat} {t : T4} {L : Array Bool} {w' w2 : World} {i : Nat}
theorem W4_6.next (h : W4_6 w1 A1 A2 p q za zb xa xb n ca m cb t L w') (h1 : i ≠ 1) (h3 : i ≠ 3) (h7 : i ≠ 7) (h8 : i ≠ 8) (h9 : i ≠ 9) (h10 : i ≠ 10) (hc : i = 4 ∨ i = 5 ∨ i = 6 → L.getD 3 false = true) (hb : Below w'.heap.size w' w2) : W4_6 w1 A1 A2 p q za zb xa xb n ca m cb t (L.setIfInBounds i true) w2 := by
  unfold W4_6
  rw [getD_set_other h1, getD_set_other h3, getD_set_other h7, getD_set_other h8, getD_set_other h9, getD_set_other h10]
  obtain ⟨a1, a2, a3, a4, a5, a6, a7, a8, a9, a10⟩ := h
  refine ⟨a1.trans (hb.mono a1.size), fun x y => (a2 x y).below hb, trivial, fun x => (a4 x).below hb, fun x => ?_, fun x => ?_, a7, a8, a9, fun j hj hL => ?_⟩
  · obtain ⟨b1, b2, b3⟩ := a5 x
    exact ⟨b1, (hb.block _ (lt_of_block b2)).trans b2, b3⟩
  · obtain ⟨b1, b2, b3⟩ := a6 x
    exact ⟨b1, (hb.block _ (lt_of_block b2)).trans b2, b3⟩
  · by_cases e : i = j
    · subst e; exact hc hj
    · rw [getD_set_other e] at hL; exact a10 j hj hL
theorem W4_6.c1 {a' : Option Addr} {c' : Nat} (h : W4_6 w1 A1 A2 p q za zb xa xb n ca m cb t L w') (hs : L.size = 11) (hb : Below w'.heap.size w' w2) (ho : OwnS w2 33 a' n c' za w'.heap.size) : W4_6 w1 A1 A2 p q za zb xa xb n ca m cb { t with a := a', c := c' } (L.setIfInBounds 1 true) w2 := by
  unfold W4_6
  rw [getD_set_same (i := 1) (by omega), getD_set_other (i := 1) (j := 3) (by omega), getD_set_other (i := 1) (j := 7) (by omega), getD_set_other (i := 1) (j := 8) (by omega), getD_set_other (i := 1) (j := 9) (by omega), getD_set_other (i := 1) (j := 10) (by omega)]
  obtain ⟨a1, a2, a3, a4, a5, a6, a7, a8, a9, a10⟩ := h
  exact ⟨a1.trans (hb.mono a1.size), fun _ _ => ho.base a1.size, trivial, fun x => (a4 x).below hb, (fun x => ⟨(a5 x).1, (hb.block _ (lt_of_block (a5 x).2.1)).trans (a5 x).2.1, (a5 x).2.2⟩), (fun x => ⟨(a6 x).1, (hb.block _ (lt_of_block (a6 x).2.1)).trans (a6 x).2.1, (a6 x).2.2⟩), a7, a8, a9, (fun j hj hL => a10 j hj (by rwa [getD_set_other (by omega)] at hL))⟩
theorem W4_6.c7 {x' y' : Option Addr} {e' f' : Nat} (h : W4_6 w1 A1 A2 p q za zb xa xb n ca m cb t L w') (hs : L.size = 11) (hu : L.getD 3 false = false) (hb : Below w'.heap.size w' w2) (ho : OwnS w2 33 y' (m + n) f' (cat zb m za) w'.heap.size) : W4_6 w1 A1 A2 p q za zb xa xb n ca m cb { t with x := x', e := e', y := y', f := f' } (L.setIfInBounds 3 true) w2 := by
  unfold W4_6
  rw [getD_set_same (i := 3) (by omega), getD_set_other (i := 3) (j := 1) (by omega), getD_set_other (i := 3) (j := 7) (by omega), getD_set_other (i := 3) (j := 8) (by omega), getD_set_other (i := 3) (j := 9) (by omega), getD_set_other (i := 3) (j := 10) (by omega)]
  obtain ⟨a1, a2, a3, a4, a5, a6, a7, a8, a9, a10⟩ := h
  have n9 : L.getD 9 false = false := by
    cases e : L.getD 9 false
    · rfl
    · have := (a8 e).1; rw [hu] at this; cases this
  have n10 : L.getD 10 false = false := by
    cases e : L.getD 10 false
    · rfl
    · have := (a9 e).1; rw [hu] at this; cases this
  rw [n9, if_neg Bool.false_ne_true] at a5 ⊢
  rw [n10, if_neg Bool.false_ne_true] at a6 ⊢
  refine ⟨a1.trans (hb.mono a1.size), (fun _ x => by cases x), trivial, fun _ => ho.base a1.size, fun x => ?_, fun x => ?_, a7, fun x => ?_, fun x => ?_, fun _ _ _ => rfl⟩
  · obtain ⟨b1, b2, b3⟩ := a5 x
    exact ⟨b1, (hb.block _ (lt_of_block b2)).trans b2, fun _ y hy => by have := ho.ge y hy; have := lt_of_block b2; show y.block ≠ t.g1; omega⟩
  · obtain ⟨b1, b2, b3⟩ := a6 x
    exact ⟨b1, (hb.block _ (lt_of_block b2)).trans b2, fun _ y hy => by have := ho.ge y hy; have := lt_of_block b2; show y.block ≠ t.g2; omega⟩
  · first | (rw [n9] at x; cases x) | cases x
  · first | (rw [n10] at x; cases x) | cases x
theorem W4_6.al7 (h : W4_6 w1 A1 A2 p q za zb xa xb n ca m cb t L w') (hs : L.size = 11) (hu : L.getD 7 false = false) : W4_6 w1 A1 A2 p q za zb xa xb n ca m cb { t with g1 := w'.heap.size } (L.setIfInBounds 7 true) (w'.alloc (.cells #[.int .i32 0, .int .i32 0, .int .i32 0, .int .i32 0, .int .i32 0, .int .i32 0, .slice none 0 0] 36)) := by
  have hb : Below w'.heap.size w' (w'.alloc (.cells #[.int .i32 0, .int .i32 0, .int .i32 0, .int .i32 0, .int .i32 0, .int .i32 0, .slice none 0 0] 36)) := (Below.refl _ _).alloc (Nat.le_refl _) _
  unfold W4_6
  rw [getD_set_same (i := 7) (by omega), getD_set_other (i := 7) (j := 1) (by omega), getD_set_other (i := 7) (j := 3) (by omega), getD_set_other (i := 7) (j := 8) (by omega), getD_set_other (i := 7) (j := 9) (by omega), getD_set_other (i := 7) (j := 10) (by omega)]
  obtain ⟨a1, a2, a3, a4, a5, a6, a7, a8, a9, a10⟩ := h
  have n9 : L.getD 9 false = false := by
    cases e : L.getD 9 false
    · rfl
    · have := (a8 e).2; rw [hu] at this; cases this
  rw [n9, if_neg Bool.false_ne_true]
  exact ⟨a1.trans (hb.mono a1.size), fun x y => (a2 x y).below hb, trivial, fun x => (a4 x).below hb, (fun _ => ⟨a1.size, heap_alloc_new _ _, fun z y hy => by have := (a4 z).lt y hy; show y.block ≠ w'.heap.size; omega⟩), (fun x => ⟨(a6 x).1, (hb.block _ (lt_of_block (a6 x).2.1)).trans (a6 x).2.1, (a6 x).2.2⟩), fun _ x => by have := lt_of_block (a6 x).2.1; show w'.heap.size ≠ t.g2; omega, (fun x => by cases x), a9, (fun j hj hL => a10 j hj (by rwa [getD_set_other (by omega)] at hL))⟩
theorem W4_6.al8 (h : W4_6 w1 A1 A2 p q za zb xa xb n ca m cb t L w') (hs : L.size = 11) (hu : L.getD 8 false = false) : W4_6 w1 A1 A2 p q za zb xa xb n ca m cb { t with g2 := w'.heap.size } (L.setIfInBounds 8 true) (w'.alloc (.cells #[.int .i32 0, .int .i32 0, .int .i32 0, .int .i32 0, .int .i32 0, .int .i32 0, .slice none 0 0] 36)) := by
  have hb : Below w'.heap.size w' (w'.alloc (.cells #[.int .i32 0, .int .i32 0, .int .i32 0, .int .i32 0, .int .i32 0, .int .i32 0, .slice none 0 0] 36)) := (Below.refl _ _).alloc (Nat.le_refl _) _
  unfold W4_6
  rw [getD_set_same (i := 8) (by omega), getD_set_other (i := 8) (j := 1) (by omega), getD_set_other (i := 8) (j := 3) (by omega), getD_set_other (i := 8) (j := 7) (by omega), getD_set_other (i := 8) (j := 9) (by omega), getD_set_other (i := 8) (j := 10) (by omega)]
  obtain ⟨a1, a2, a3, a4, a5, a6, a7, a8, a9, a10⟩ := h
  have n10 : L.getD 10 false = false := by
    cases e : L.getD 10 false
    · rfl
    · have := (a9 e).2; rw [hu] at this; cases this
  rw [n10, if_neg Bool.false_ne_true]
  exact ⟨a1.trans (hb.mono a1.size), fun x y => (a2 x y).below hb, trivial, fun x => (a4 x).below hb, (fun x => ⟨(a5 x).1, (hb.block _ (lt_of_block (a5 x).2.1)).trans (a5 x).2.1, (a5 x).2.2⟩), (fun _ => ⟨a1.size, heap_alloc_new _ _, fun z y hy => by have := (a4 z).lt y hy; show y.block ≠ w'.heap.size; omega⟩), fun x _ => by have := lt_of_block (a5 x).2.1; show t.g1 ≠ w'.heap.size; omega, a8, (fun x => by cases x), (fun j hj hL => a10 j hj (by rwa [getD_set_other (by omega)] at hL))⟩
theorem W4_6.st9 (h : W4_6 w1 A1 A2 p q za zb xa xb n ca m cb t L w') (hs : L.size = 11) (k7 : L.getD 3 false = true) (kg : L.getD 7 false = true) : W4_6 w1 A1 A2 p q za zb xa xb n ca m cb t (L.setIfInBounds 9 true) (w'.setRow t.g1 (dA p t.x n t.e)) := by
  unfold W4_6
  rw [getD_set_same (i := 9) (by omega), getD_set_other (i := 9) (j := 1) (by omega), getD_set_other (i := 9) (j := 3) (by omega), getD_set_other (i := 9) (j := 7) (by omega), getD_set_other (i := 9) (j := 8) (by omega), getD_set_other (i := 9) (j := 10) (by omega)]
  obtain ⟨a1, a2, a3, a4, a5, a6, a7, a8, a9, a10⟩ := h
  obtain ⟨b1, b2, b3⟩ := a5 kg
  refine ⟨below_setRow a1 b1 _, (fun _ x => by rw [k7] at x; cases x), trivial, fun x => (a4 x).setRow2 (b3 k7), fun _ => ⟨b1, ?_, b3⟩, fun x => ⟨(a6 x).1, (setRow_other _ _ _ _ (Ne.symm (a7 kg x))).trans (a6 x).2.1, (a6 x).2.2⟩, a7, fun _ => ⟨k7, kg⟩, a9, (fun j hj hL => a10 j hj (by rwa [getD_set_other (by omega)] at hL))⟩
  rw [if_pos rfl]
  exact setRow_heap _ _ _ _ _ _ b2
theorem W4_6.st10 (h : W4_6 w1 A1 A2 p q za zb xa xb n ca m cb t L w') (hs : L.size = 11) (k7 : L.getD 3 false = true) (kg : L.getD 8 false = true) : W4_6 w1 A1 A2 p q za zb xa xb n ca m cb t (L.setIfInBounds 10 true) (w'.setRow t.g2 (dA (mp p q) t.y (m + n) t.f)) := by
  unfold W4_6
  rw [getD_set_same (i := 10) (by omega), getD_set_other (i := 10) (j := 1) (by omega), getD_set_other (i := 10) (j := 3) (by omega), getD_set_other (i := 10) (j := 7) (by omega), getD_set_other (i := 10) (j := 8) (by omega), getD_set_other (i := 10) (j := 9) (by omega)]
  obtain ⟨a1, a2, a3, a4, a5, a6, a7, a8, a9, a10⟩ := h
  obtain ⟨b1, b2, b3⟩ := a6 kg
  refine ⟨below_setRow a1 b1 _, (fun _ x => by rw [k7] at x; cases x), trivial, fun x => (a4 x).setRow2 (b3 k7), fun x => ⟨(a5 x).1, (setRow_other _ _ _ _ (a7 x kg)).trans (a5 x).2.1, (a5 x).2.2⟩, fun _ => ⟨b1, ?_, b3⟩, a7, a8, fun _ => ⟨k7, kg⟩, (fun j hj hL => a10 j hj (by rwa [getD_set_other (by omega)] at hL))⟩
  rw [if_pos rfl]
  exact setRow_heap _ _ _ _ _ _ b2
end
theorem reg4_6 {id : Nat} {a00 : Act} {Q : Exit → Act → World → Prop} (w1 : World) (A1 A2 : Nat) (p q : Nat → Int) (za zb : Nat → Int) (xa xb : Option Addr) (n ca m cb : Nat) (hs : a00.tmps.size = 69)
    (hp1 : a00.eval (.tmp 4) = .pointer (some ⟨A1, 0, none⟩)) (hp2 : a00.eval (.tmp 8) = .pointer (some ⟨A2, 0, none⟩)) (hA : w1.heap[A1]? = some (.cells (dA p xa n ca) 31 (0, 0))) (hB : w1.heap[A2]? = some (.cells (dA q xb m cb) 36 (0, 0)))
    (hn : n ≤ 65536) (hm : m ≤ 65536) (ha : Row w1 xa (n * 2) (zc za)) (hb : Row w1 xb (m * 2) (zc zb)) (hna : xa = none → n = 0 ∧ ca = 0) (hnb : xb = none → m = 0 ∧ cb = 0)
    (hQ : ∀ (a' : Act) (w' : World) (t : T4), a'.defers = a00.defers → a'.tmps.size = 69 → (∀ d, outB ops4_6 d = true → a'.eval (.tmp d) = a00.eval (.tmp d)) → a'.eval (.tmp 10) = .pointer (some ⟨t.g2, 0, none⟩) → Below w1.heap.size w1 w' → OwnS w' 33 t.y (m + n) t.f (cat zb m za) w1.heap.size → w'.heap[t.g2]? = some (.cells (dA (mp p q) t.y (m + n) t.f) 36 (0, 0)) → Q .normal a' w') :
    (Code.region id ops4_6 true).wp Try.prog Q a00 w1 := by
  refine wp_region_sl (Θ := T4) (by kernel_rfl) (fun t => V4_6 p q xa xb n ca m cb t) (fun t => W4_6 w1 A1 A2 p q za zb xa xb n ca m cb t) (by kernel_rfl) (by rw [hs]; kernel_rfl) ⟨none, 0, none, 0, none, 0, none, 0, 0, 0⟩ ?_ ?_ ?_
  · have hf : ∀ j, (Array.replicate ops4_6.size false).getD j false = false := fun j => by
      rw [Array.getD_eq_getD_getElem?, Array.getElem?_replicate]
      split <;> rfl
    unfold W4_6
    simp only [hf]
    exact ⟨(Below.refl _ _).drew, (fun x => by cases x), trivial, (fun x => by cases x), (fun x => by cases x), (fun x => by cases x), (fun x => by cases x), (fun x => by cases x), (fun x => by cases x), (fun _ _ x => by cases x)⟩
  · intro i o t L ac w' ho hL hu hall hS hW
    have hi : i < 11 := by rw [← size4_6]; exact (Array.getElem?_eq_some_iff.1 ho).1
    have hLs : L.size = 11 := by rw [hL]; exact size4_6
    have uf := getD_false_of_unlisted hu
    have rcs : i = 0 ∨ i = 1 ∨ i = 2 ∨ i = 3 ∨ i = 4 ∨ i = 5 ∨ i = 6 ∨ i = 7 ∨ i = 8 ∨ i = 9 ∨ i = 10 := by omega
    rcases rcs with rfl | rfl | rfl | rfl | rfl | rfl | rfl | rfl | rfl | rfl | rfl
    · have ho1 := at_op (q := Op.load 31 (Operand.tmp 4)) (by kernel_rfl) ho
      have hx : ac.eval (.tmp 4) = .pointer (some ⟨A1, 0, none⟩) := (hS.out (by kernel_rfl)).trans hp1
      exact wp_load_row 31 _ ho1 A1 hx 31 (dA p xa n ca) (0, 0) _ (blk hA hW.1) Try.underlying31 rfl (by kernel_rfl) ⟨t, rfl, fun _ _ => rfl, (hW.next (i := 0) (by omega) (by omega) (by omega) (by omega) (by omega) (by omega) (fun h => absurd h (by omega)) (Below.refl _ _))⟩
    · have ho1 := at_op (q := Op.call { callee := Callee.value (Operand.func 8), args := #[Operand.tmp 45], argTypes := #[31] }) (by kernel_rfl) ho
      have hx : ac.eval (.tmp 45) = .agg (dA p xa n ca) := hS.arg (p := 0) (d := 45) ho hall (by kernel_rfl) (by kernel_rfl)
      have hrun : (execOp ac.eval o).run Try.prog w' = .ok (.enter 8 #[.agg (dA p xa n ca)]) w' := by
        unfold execOp
        simp only [ho1, List.map_toArray, List.map_cons, List.map_nil, hx]
        go_simp
        simpa [Act.eval] using hx
      refine k_call hrun (R := fun v w2 => ∃ a' c', v = .agg (dA p a' n c') ∧ Below w'.heap.size w' w2 ∧ OwnS w2 33 a' n c' za w'.heap.size) ((conv8 w' p za _ n _ (by omega) (ha.below hW.1) hna).mono fun e w2 ⟨a', c', h1, h2, h3⟩ => ⟨_, h1, a', c', rfl, h2, h3⟩) ?_
      rintro v w2 ⟨a', c', rfl, hb2, hown⟩
      refine ⟨{ t with a := a', c := c' }, rfl, fun j hj => ?_, hW.c1 hLs hb2 hown⟩
      have hj1 : j ≠ 1 := fun h => by rw [h, uf] at hj; cases hj
      unfold V4_6
      simp only [if_neg hj1]
    · have ho1 := at_op (q := Op.load 36 (Operand.tmp 8)) (by kernel_rfl) ho
      have hx : ac.eval (.tmp 8) = .pointer (some ⟨A2, 0, none⟩) := (hS.out (by kernel_rfl)).trans hp2
      exact wp_load_row 36 _ ho1 A2 hx 36 (dA q xb m cb) (0, 0) _ (blk hB hW.1) Try.underlying36 rfl (by kernel_rfl) ⟨t, rfl, fun _ _ => rfl, (hW.next (i := 2) (by omega) (by omega) (by omega) (by omega) (by omega) (by omega) (fun h => absurd h (by omega)) (Below.refl _ _))⟩
    · have ho1 := at_op (q := Op.call { callee := Callee.value (Operand.func 7), args := #[Operand.tmp 46, Operand.tmp 47], argTypes := #[36, 36] }) (by kernel_rfl) ho
      have hx : ac.eval (.tmp 46) = .agg (dA p t.a n t.c) := hS.arg (p := 1) (d := 46) ho hall (by kernel_rfl) (by kernel_rfl)
      have hy : ac.eval (.tmp 47) = .agg (dA q xb m cb) := hS.arg (p := 2) (d := 47) ho hall (by kernel_rfl) (by kernel_rfl)
      have hrun : (execOp ac.eval o).run Try.prog w' = .ok (.enter 7 #[.agg (dA p t.a n t.c), .agg (dA q xb m cb)]) w' := by
        unfold execOp
        simp only [ho1, List.map_toArray, List.map_cons, List.map_nil, hx, hy]
        go_simp
        exact ⟨by simpa [Act.eval] using hx, by simpa [Act.eval] using hy⟩
      refine k_call hrun (R := fun v w2 => ∃ a c b d, v = .tuple #[.agg (dA p a n c), .agg (dA (mp p q) b (m + n) d)] ∧ OwnS w2 33 b (m + n) d (cat zb m za) w'.heap.size ∧ Below w'.heap.size w' w2) ((merge7 w' p q za zb _ _ n _ m _ hn hm (hW.2.1 (dep_listed (p := 1) (by kernel_rfl) ho hall) uf).row (hb.below hW.1) (hW.2.1 (dep_listed (p := 1) (by kernel_rfl) ho hall) uf).nil hnb).mono fun e w2 ⟨a, c, b, d, h1, h2, h3⟩ => ⟨_, h1, a, c, b, d, rfl, h2, h3⟩) ?_
      rintro v w2 ⟨x', e', y', f', rfl, hown, hb2⟩
      refine ⟨{ t with x := x', e := e', y := y', f := f' }, rfl, fun j hj => ?_, hW.c7 hLs uf hb2 hown⟩
      have hj1 : j ≠ 3 := fun h => by rw [h, uf] at hj; cases hj
      have hj2 : j ≠ 4 := fun h => by have := hW.2.2.2.2.2.2.2.2.2 j (by omega) hj; rw [uf] at this; cases this
      have hj3 : j ≠ 5 := fun h => by have := hW.2.2.2.2.2.2.2.2.2 j (by omega) hj; rw [uf] at this; cases this
      have hj4 : j ≠ 6 := fun h => by have := hW.2.2.2.2.2.2.2.2.2 j (by omega) hj; rw [uf] at this; cases this
      unfold V4_6
      simp only [if_neg hj1, if_neg hj2, if_neg hj3, if_neg hj4]
    · have ho1 := at_op (q := Op.move (Operand.tmp 48)) (by kernel_rfl) ho
      have hx : ac.eval (.tmp 48) = .tuple #[.agg (dA p t.x n t.e), .agg (dA (mp p q) t.y (m + n) t.f)] := hS.arg (p := 3) (d := 48) ho hall (by kernel_rfl) (by kernel_rfl)
      exact pure_op (t := t) (V := fun t => V4_6 p q xa xb n ca m cb t) (W := fun t => W4_6 w1 A1 A2 p q za zb xa xb n ca m cb t) (v := .tuple #[.agg (dA p t.x n t.e), .agg (dA (mp p q) t.y (m + n) t.f)]) (k_move _ ho1 hx) rfl (hW.next (i := 4) (by omega) (by omega) (by omega) (by omega) (by omega) (by omega) (fun _ => dep_listed (p := 3) (by kernel_rfl) ho hall) (Below.refl _ _))
    · have ho1 := at_op (q := Op.extract (Operand.tmp 44) 0) (by kernel_rfl) ho
      have hx : ac.eval (.tmp 44) = .tuple #[.agg (dA p t.x n t.e), .agg (dA (mp p q) t.y (m + n) t.f)] := hS.arg (p := 4) (d := 44) ho hall (by kernel_rfl) (by kernel_rfl)
      refine pure_op (t := t) (V := fun t => V4_6 p q xa xb n ca m cb t) (W := fun t => W4_6 w1 A1 A2 p q za zb xa xb n ca m cb t) (v := .agg (dA p t.x n t.e)) ?_ rfl (hW.next (i := 5) (by omega) (by omega) (by omega) (by omega) (by omega) (by omega) (fun _ => hW.2.2.2.2.2.2.2.2.2 4 (.inl rfl) (dep_listed (p := 4) (by kernel_rfl) ho hall)) (Below.refl _ _))
      unfold execOp
      simp only [ho1, hx]
      go_simp
    · have ho1 := at_op (q := Op.extract (Operand.tmp 44) 1) (by kernel_rfl) ho
      have hx : ac.eval (.tmp 44) = .tuple #[.agg (dA p t.x n t.e), .agg (dA (mp p q) t.y (m + n) t.f)] := hS.arg (p := 4) (d := 44) ho hall (by kernel_rfl) (by kernel_rfl)
      refine pure_op (t := t) (V := fun t => V4_6 p q xa xb n ca m cb t) (W := fun t => W4_6 w1 A1 A2 p q za zb xa xb n ca m cb t) (v := .agg (dA (mp p q) t.y (m + n) t.f)) ?_ rfl (hW.next (i := 6) (by omega) (by omega) (by omega) (by omega) (by omega) (by omega) (fun _ => hW.2.2.2.2.2.2.2.2.2 4 (.inl rfl) (dep_listed (p := 4) (by kernel_rfl) ho hall)) (Below.refl _ _))
      unfold execOp
      simp only [ho1, hx]
      go_simp
    · have ho1 := at_op (q := Op.alloc 36) (by kernel_rfl) ho
      have hrun : (execOp ac.eval o).run Try.prog w' = .ok (.value (.pointer (some ⟨w'.heap.size, 0, none⟩))) (w'.alloc (.cells #[.int .i32 0, .int .i32 0, .int .i32 0, .int .i32 0, .int .i32 0, .int .i32 0, .slice none 0 0] 36)) := by
        unfold execOp
        simp only [ho1]
        go_simp
      unfold Oper.wp
      rw [hrun, Oper.upon_value]
      refine ⟨{ t with g1 := w'.heap.size }, rfl, fun j hj => ?_, hW.al7 hLs uf⟩
      have hj1 : j ≠ 7 := fun h => by rw [h, uf] at hj; cases hj
      unfold V4_6
      simp only [if_neg hj1]
    · have ho1 := at_op (q := Op.alloc 36) (by kernel_rfl) ho
      have hrun : (execOp ac.eval o).run Try.prog w' = .ok (.value (.pointer (some ⟨w'.heap.size, 0, none⟩))) (w'.alloc (.cells #[.int .i32 0, .int .i32 0, .int .i32 0, .int .i32 0, .int .i32 0, .int .i32 0, .slice none 0 0] 36)) := by
        unfold execOp
        simp only [ho1]
        go_simp
      unfold Oper.wp
      rw [hrun, Oper.upon_value]
      refine ⟨{ t with g2 := w'.heap.size }, rfl, fun j hj => ?_, hW.al8 hLs uf⟩
      have hj1 : j ≠ 8 := fun h => by rw [h, uf] at hj; cases hj
      unfold V4_6
      simp only [if_neg hj1]
    · have ho1 := at_op (q := Op.store 36 (Operand.tmp 9) (Operand.tmp 49)) (by kernel_rfl) ho
      have hd := at_dst (d := none) (by kernel_rfl) ho
      have hx : ac.eval (.tmp 9) = .pointer (some ⟨t.g1, 0, none⟩) := hS.arg (p := 7) (d := 9) ho hall (by kernel_rfl) (by kernel_rfl)
      have hy : ac.eval (.tmp 49) = .agg (dA p t.x n t.e) := hS.arg (p := 5) (d := 49) ho hall (by kernel_rfl) (by kernel_rfl)
      have kg := dep_listed (p := 7) (by kernel_rfl) ho hall
      have k7 := (dep_listed (p := 3) (by kernel_rfl) ho hall)
      obtain ⟨b1, b2, b3⟩ := hW.2.2.2.2.1 kg
      rw [uf, if_neg Bool.false_ne_true] at b2
      exact wp_store_row 36 _ _ ho1 t.g1 _ hx hy 36 _ b2 (by kernel_rfl) rfl (by kernel_rfl) ⟨t, by rw [hd]; rfl, fun _ _ => rfl, hW.st9 hLs k7 kg⟩
    · have ho1 := at_op (q := Op.store 36 (Operand.tmp 10) (Operand.tmp 50)) (by kernel_rfl) ho
      have hd := at_dst (d := none) (by kernel_rfl) ho
      have hx : ac.eval (.tmp 10) = .pointer (some ⟨t.g2, 0, none⟩) := hS.arg (p := 8) (d := 10) ho hall (by kernel_rfl) (by kernel_rfl)
      have hy : ac.eval (.tmp 50) = .agg (dA (mp p q) t.y (m + n) t.f) := hS.arg (p := 6) (d := 50) ho hall (by kernel_rfl) (by kernel_rfl)
      have kg := dep_listed (p := 8) (by kernel_rfl) ho hall
      have k7 := (hW.2.2.2.2.2.2.2.1 (dep_listed (p := 9) (by kernel_rfl) ho hall)).1
      obtain ⟨b1, b2, b3⟩ := hW.2.2.2.2.2.1 kg
      rw [uf, if_neg Bool.false_ne_true] at b2
      exact wp_store_row 36 _ _ ho1 t.g2 _ hx hy 36 _ b2 (by kernel_rfl) rfl (by kernel_rfl) ⟨t, by rw [hd]; rfl, fun _ _ => rfl, hW.st10 hLs k7 kg⟩
  · intro t L ac w' hall hS hW
    have k1 := hall 8 (by rw [size4_6]; omega)
    obtain ⟨b1, b2, b3⟩ := hW.2.2.2.2.2.1 k1
    rw [hall 10 (by rw [size4_6]; omega), if_pos rfl] at b2
    exact hQ ac w' t hS.1 (hS.2.1.trans hs) (fun d hd => hS.out hd) (hS.2.2.2 8 10 k1 (by kernel_rfl)) hW.1 (hW.2.2.2.1 (hall 3 (by rw [size4_6]; omega))) b2
noncomputable def ops4_7 : Array Oper := (Try.f4.body.bind (regOps 7)).getD #[]
theorem size4_7 : ops4_7.size = 12 := by kernel_rfl
noncomputable def V4_7 (p q : Nat → Int) (xa xb : Option Addr) (n ca m cb : Nat) (t : T4) (i : Nat) : Value := if i = 1 then .agg (dA p t.a n t.c) else if i = 3 then .agg (dA q t.b m t.d) else if i = 4 then .tuple #[.agg (dA p t.x n t.e), .agg (dA (mp p q) t.y (m + n) t.f)] else if i = 5 then .tuple #[.agg (dA p t.x n t.e), .agg (dA (mp p q) t.y (m + n) t.f)] else if i = 6 then .agg (dA p t.x n t.e) else if i = 7 then .agg (dA (mp p q) t.y (m + n) t.f) else if i = 8 then .pointer (some ⟨t.g1, 0, none⟩) else if i = 9 then .pointer (some ⟨t.g2, 0, none⟩) else [.agg (dA p xa n ca), undef, .agg (dA q xb m cb), undef, undef, undef, undef, undef, undef, undef, undef, undef].getD i undef
def W4_7 (w1 : World) (A1 A2 : Nat) (p q : Nat → Int) (za zb : Nat → Int) (xa xb : Option Addr) (n ca m cb : Nat) (t : T4) (L : Array Bool) (w' : World) : Prop := Below w1.heap.size w1 w' ∧ (L.getD 1 false = true → L.getD 4 false = false → OwnS w' 33 t.a n t.c za w1.heap.size) ∧ (L.getD 3 false = true → L.getD 4 false = false → OwnS w' 33 t.b m t.d zb w1.heap.size) ∧ (L.getD 4 false = true → OwnS w' 33 t.y (m + n) t.f (cat zb m za) w1.heap.size) ∧ (L.getD 8 false = true → w1.heap.size ≤ t.g1 ∧ w'.heap[t.g1]? = some (.cells (if L.getD 10 false = true then dA p t.x n t.e else #[.int .i32 0, .int .i32 0, .int .i32 0, .int .i32 0, .int .i32 0, .int .i32 0, .slice none 0 0]) 36 (0, 0)) ∧ (L.getD 4 false = true → ∀ x, t.y = some x → x.block ≠ t.g1)) ∧ (L.getD 9 false = true → w1.heap.size ≤ t.g2 ∧ w'.heap[t.g2]? = some (.cells (if L.getD 11 false = true then dA (mp p q) t.y (m + n) t.f else #[.int .i32 0, .int .i32 0, .int .i32 0, .int .i32 0, .int .i32 0, .int .i32 0, .slice none 0 0]) 36 (0, 0)) ∧ (L.getD 4 false = true → ∀ x, t.y = some x → x.block ≠ t.g2)) ∧ (L.getD 8 false = true → L.getD 9 false = true → t.g1 ≠ t.g2) ∧ (L.getD 10 false = true → L.getD 4 false = true ∧ L.getD 8 false = true) ∧ (L.getD 11 false = true → L.getD 4 false = true ∧ L.getD 9 false = true) ∧ (∀ j, j = 5 ∨ j = 6 ∨ j = 7 → L.getD j false = true → L.getD 4 false = true)
section
variable {w1 : World} {A1 A2 : Nat} {p q : Nat → Int} {za zb : Nat → Int} {xa xb : Option Addr} {n ca m cb : Nat} {t : T4} {L : Array Bool} {w' w2 : World} {i : Nat}
theorem W4_7.next (h : W4_7 w1 A1 A2 p q za zb xa xb n ca m cb t L w') (h1 : i ≠ 1) (h3 : i ≠ 3) (h4 : i ≠ 4) (h8 : i ≠ 8) (h9 : i ≠ 9) (h10 : i ≠ 10) (h11 : i ≠ 11) (hc : i = 5 ∨ i = 6 ∨ i = 7 → L.getD 4 false = true) (hb : Below w'.heap.size w' w2) : W4_7 w1 A1 A2 p q za zb xa xb n ca m cb t (L.setIfInBounds i true) w2 := by
  unfold W4_7
  rw [getD_set_other h1, getD_set_other h3, getD_set_other h4, getD_set_other h8, getD_set_other h9, getD_set_other h10, getD_set_other h11]
  obtain ⟨a1, a2, a3, a4, a5, a6, a7, a8, a9, a10⟩ := h
  refine ⟨a1.trans (hb.mono a1.size), fun x y => (a2 x y).below hb, fun x y => (a3 x y).below hb, fun x => (a4 x).below hb, fun x => ?_, fun x => ?_, a7, a8, a9, fun j hj hL => ?_⟩
  · obtain ⟨b1, b2, b3⟩ := a5 x
    exact ⟨b1, (hb.block _ (lt_of_block b2)).trans b2, b3⟩
  · obtain ⟨b1, b2, b3⟩ := a6 x
    exact ⟨b1, (hb.block _ (lt_of_block b2)).trans b2, b3⟩
  · by_cases e : i = j
    · subst e; exact hc hj
    · rw [getD_set_other e] at hL; exact a10 j hj hL
theorem W4_7.c1 {a' : Option Addr} {c' : Nat} (h : W4_7 w1 A1 A2 p q za zb xa xb n ca m cb t L w') (hs : L.size = 12) (hb : Below w'.heap.size w' w2) (ho : OwnS w2 33 a' n c' za w'.heap.size) : W4_7 w1 A1 A2 p q za zb xa xb n ca m cb { t with a := a', c := c' } (L.setIfInBounds 1 true) w2 := by
  unfold W4_7
  rw [getD_set_same (i := 1) (by omega), getD_set_other (i := 1) (j := 3) (by omega), getD_set_other (i := 1) (j := 4) (by omega), getD_set_other (i := 1) (j := 8) (by omega), getD_set_other (i := 1) (j := 9) (by omega), getD_set_other (i := 1) (j := 10) (by omega), getD_set_other (i := 1) (j := 11) (by omega)]
  obtain ⟨a1, a2, a3, a4, a5, a6, a7, a8, a9, a10⟩ := h
  exact ⟨a1.trans (hb.mono a1.size), fun _ _ => ho.base a1.size, fun x y => (a3 x y).below hb, fun x => (a4 x).below hb, (fun x => ⟨(a5 x).1, (hb.block _ (lt_of_block (a5 x).2.1)).trans (a5 x).2.1, (a5 x).2.2⟩), (fun x => ⟨(a6 x).1, (hb.block _ (lt_of_block (a6 x).2.1)).trans (a6 x).2.1, (a6 x).2.2⟩), a7, a8, a9, (fun j hj hL => a10 j hj (by rwa [getD_set_other (by omega)] at hL))⟩
theorem W4_7.c2 {a' : Option Addr} {c' : Nat} (h : W4_7 w1 A1 A2 p q za zb xa xb n ca m cb t L w') (hs : L.size = 12) (hb : Below w'.heap.size w' w2) (ho : OwnS w2 33 a' m c' zb w'.heap.size) : W4_7 w1 A1 A2 p q za zb xa xb n ca m cb { t with b := a', d := c' } (L.setIfInBounds 3 true) w2 := by
  unfold W4_7
  rw [getD_set_same (i := 3) (by omega), getD_set_other (i := 3) (j := 1) (by omega), getD_set_other (i := 3) (j := 4) (by omega), getD_set_other (i := 3) (j := 8) (by omega), getD_set_other (i := 3) (j := 9) (by omega), getD_set_other (i := 3) (j := 10) (by omega), getD_set_other (i := 3) (j := 11) (by omega)]
  obtain ⟨a1, a2, a3, a4, a5, a6, a7, a8, a9, a10⟩ := h
  exact ⟨a1.trans (hb.mono a1.size), fun x y => (a2 x y).below hb, fun _ _ => ho.base a1.size, fun x => (a4 x).below hb, (fun x => ⟨(a5 x).1, (hb.block _ (lt_of_block (a5 x).2.1)).trans (a5 x).2.1, (a5 x).2.2⟩), (fun x => ⟨(a6 x).1, (hb.block _ (lt_of_block (a6 x).2.1)).trans (a6 x).2.1, (a6 x).2.2⟩), a7, a8, a9, (fun j hj hL => a10 j hj (by rwa [getD_set_other (by omega)] at hL))⟩
theorem W4_7.c7 {x' y' : Option Addr} {e' f' : Nat} (h : W4_7 w1 A1 A2 p q za zb xa xb n ca m cb t L w') (hs : L.size = 12) (hu : L.getD 4 false = false) (hb : Below w'.heap.size w' w2) (ho : OwnS w2 33 y' (m + n) f' (cat zb m za) w'.heap.size) : W4_7 w1 A1 A2 p q za zb xa xb n ca m cb { t with x := x', e := e', y := y', f := f' } (L.setIfInBounds 4 true) w2 := by
  unfold W4_7
  rw [getD_set_same (i := 4) (by omega), getD_set_other (i := 4) (j := 1) (by omega), getD_set_other (i := 4) (j := 3) (by omega), getD_set_other (i := 4) (j := 8) (by omega), getD_set_other (i := 4) (j := 9) (by omega), getD_set_other (i := 4) (j := 10) (by omega), getD_set_other (i := 4) (j := 11) (by omega)]
  obtain ⟨a1, a2, a3, a4, a5, a6, a7, a8, a9, a10⟩ := h
  have n10 : L.getD 10 false = false := by
    cases e : L.getD 10 false
    · rfl
    · have := (a8 e).1; rw [hu] at this; cases this
  have n11 : L.getD 11 false = false := by
    cases e : L.getD 11 false
    · rfl
    · have := (a9 e).1; rw [hu] at this; cases this
  rw [n10, if_neg Bool.false_ne_true] at a5 ⊢
  rw [n11, if_neg Bool.false_ne_true] at a6 ⊢
  refine ⟨a1.trans (hb.mono a1.size), (fun _ x => by cases x), (fun _ x => by cases x), fun _ => ho.base a1.size, fun x => ?_, fun x => ?_, a7, fun x => ?_, fun x => ?_, fun _ _ _ => rfl⟩
  · obtain ⟨b1, b2, b3⟩ := a5 x
    exact ⟨b1, (hb.block _ (lt_of_block b2)).trans b2, fun _ y hy => by have := ho.ge y hy; have := lt_of_block b2; show y.block ≠ t.g1; omega⟩
  · obtain ⟨b1, b2, b3⟩ := a6 x
    exact ⟨b1, (hb.block _ (lt_of_block b2)).trans b2, fun _ y hy => by have := ho.ge y hy; have := lt_of_block b2; show y.block ≠ t.g2; omega⟩
  · first | (rw [n10] at x; cases x) | cases x
  · first | (rw [n11] at x; cases x) | cases x
theorem W4_7.al8 (h : W4_7 w1 A1 A2 p q za zb xa xb n ca m cb t L w') (hs : L.size = 12) (hu : L.getD 8 false = false) : W4_7 w1 A1 A2 p q za zb xa xb n ca m cb { t with g1 := w'.heap.size } (L.setIfInBounds 8 true) (w'.alloc (.cells #[.int .i32 0, .int .i32 0, .int .i32 0, .int .i32 0, .int .i32 0, .int .i32 0, .slice none 0 0] 36)) := by
  have hb : Below w'.heap.size w' (w'.alloc (.cells #[.int .i32 0, .int .i32 0, .int .i32 0, .int .i32 0, .int .i32 0, .int .i32 0, .slice none 0 0] 36)) := (Below.refl _ _).alloc (Nat.le_refl _) _
  unfold W4_7
  rw [getD_set_same (i := 8) (by omega), getD_set_other (i := 8) (j := 1) (by omega), getD_set_other (i := 8) (j := 3) (by omega), getD_set_other (i := 8) (j := 4) (by omega), getD_set_other (i := 8) (j := 9) (by omega), getD_set_other (i := 8) (j := 10) (by omega), getD_set_other (i := 8) (j := 11) (by omega)]
  obtain ⟨a1, a2, a3, a4, a5, a6, a7, a8, a9, a10⟩ := h
  have n10 : L.getD 10 false = false := by
    cases e : L.getD 10 false
    · rfl
    · have := (a8 e).2; rw [hu] at this; cases this
  rw [n10, if_neg Bool.false_ne_true]
  exact ⟨a1.trans (hb.mono a1.size), fun x y => (a2 x y).below hb, fun x y => (a3 x y).below hb, fun x => (a4 x).below hb, (fun _ => ⟨a1.size, heap_alloc_new _ _, fun z y hy => by have := (a4 z).lt y hy; show y.block ≠ w'.heap.size; omega⟩), (fun x => ⟨(a6 x).1, (hb.block _ (lt_of_block (a6 x).2.1)).trans (a6 x).2.1, (a6 x).2.2⟩), fun _ x => by have := lt_of_block (a6 x).2.1; show w'.heap.size ≠ t.g2; omega, (fun x => by cases x), a9, (fun j hj hL => a10 j hj (by rwa [getD_set_other (by omega)] at hL))⟩
theorem W4_7.al9 (h : W4_7 w1 A1 A2 p q za zb xa xb n ca m cb t L w') (hs : L.size = 12) (hu : L.getD 9 false = false) : W4_7 w1 A1 A2 p q za zb xa xb n ca m cb { t with g2 := w'.heap.size } (L.setIfInBounds 9 true) (w'.alloc (.cells #[.int .i32 0, .int .i32 0, .int .i32 0, .int .i32 0, .int .i32 0, .int .i32 0, .slice none 0 0] 36)) := by
  have hb : Below w'.heap.size w' (w'.alloc (.cells #[.int .i32 0, .int .i32 0, .int .i32 0, .int .i32 0, .int .i32 0, .int .i32 0, .slice none 0 0] 36)) := (Below.refl _ _).alloc (Nat.le_refl _) _
  unfold W4_7
  rw [getD_set_same (i := 9) (by omega), getD_set_other (i := 9) (j := 1) (by omega), getD_set_other (i := 9) (j := 3) (by omega), getD_set_other (i := 9) (j := 4) (by omega), getD_set_other (i := 9) (j := 8) (by omega), getD_set_other (i := 9) (j := 10) (by omega), getD_set_other (i := 9) (j := 11) (by omega)]
  obtain ⟨a1, a2, a3, a4, a5, a6, a7, a8, a9, a10⟩ := h
  have n11 : L.getD 11 false = false := by
    cases e : L.getD 11 false
    · rfl
    · have := (a9 e).2; rw [hu] at this; cases this
  rw [n11, if_neg Bool.false_ne_true]
  exact ⟨a1.trans (hb.mono a1.size), fun x y => (a2 x y).below hb, fun x y => (a3 x y).below hb, fun x => (a4 x).below hb, (fun x => ⟨(a5 x).1, (hb.block _ (lt_of_block (a5 x).2.1)).trans (a5 x).2.1, (a5 x).2.2⟩), (fun _ => ⟨a1.size, heap_alloc_new _ _, fun z y hy => by have := (a4 z).lt y hy; show y.block ≠ w'.heap.size; omega⟩), fun x _ => by have := lt_of_block (a5 x).2.1; show t.g1 ≠ w'.heap.size; omega, a8, (fun x => by cases x), (fun j hj hL => a10 j hj (by rwa [getD_set_other (by omega)] at hL))⟩
theorem W4_7.st10 (h : W4_7 w1 A1 A2 p q za zb xa xb n ca m cb t L w') (hs : L.size = 12) (k7 : L.getD 4 false = true) (kg : L.getD 8 false = true) : W4_7 w1 A1 A2 p q za zb xa xb n ca m cb t (L.setIfInBounds 10 true) (w'.setRow t.g1 (dA p t.x n t.e)) := by
  unfold W4_7
  rw [getD_set_same (i := 10) (by omega), getD_set_other (i := 10) (j := 1) (by omega), getD_set_other (i := 10) (j := 3) (by omega), getD_set_other (i := 10) (j := 4) (by omega), getD_set_other (i := 10) (j := 8) (by omega), getD_set_other (i := 10) (j := 9) (by omega), getD_set_other (i := 10) (j := 11) (by omega)]
  obtain ⟨a1, a2, a3, a4, a5, a6, a7, a8, a9, a10⟩ := h
  obtain ⟨b1, b2, b3⟩ := a5 kg
  refine ⟨below_setRow a1 b1 _, (fun _ x => by rw [k7] at x; cases x), (fun _ x => by rw [k7] at x; cases x), fun x => (a4 x).setRow2 (b3 k7), fun _ => ⟨b1, ?_, b3⟩, fun x => ⟨(a6 x).1, (setRow_other _ _ _ _ (Ne.symm (a7 kg x))).trans (a6 x).2.1, (a6 x).2.2⟩, a7, fun _ => ⟨k7, kg⟩, a9, (fun j hj hL => a10 j hj (by rwa [getD_set_other (by omega)] at hL))⟩
  rw [if_pos rfl]
  exact setRow_heap _ _ _ _ _ _ b2
theorem W4_7.st11 (h : W4_7 w1 A1 A2 p q za zb xa xb n ca m cb t L w') (hs : L.size = 12) (k7 : L.getD 4 false = true) (kg : L.getD 9 false = true) : W4_7 w1 A1 A2 p q za zb xa xb n ca m cb t (L.setIfInBounds 11 true) (w'.setRow t.g2 (dA (mp p q) t.y (m + n) t.f)) := by
  unfold W4_7
  rw [getD_set_same (i := 11) (by omega), getD_set_other (i := 11) (j := 1) (by omega), getD_set_other (i := 11) (j := 3) (by omega), getD_set_other (i := 11) (j := 4) (by omega), getD_set_other (i := 11) (j := 8) (by omega), getD_set_other (i := 11) (j := 9) (by omega), getD_set_other (i := 11) (j := 10) (by omega)]
  obtain ⟨a1, a2, a3, a4, a5, a6, a7, a8, a9, a10⟩ := h
  obtain ⟨b1, b2, b3⟩ := a6 kg
  refine ⟨below_setRow a1 b1 _, (fun _ x => by rw [k7] at x; cases x), (fun _ x => by rw [k7] at x; cases x), fun x => (a4 x).setRow2 (b3 k7), fun x => ⟨(a5 x).1, (setRow_other _ _ _ _ (a7 x kg)).trans (a5 x).2.1, (a5 x).2.2⟩, fun _ => ⟨b1, ?_, b3⟩, a7, a8, fun _ => ⟨k7, kg⟩, (fun j hj hL => a10 j hj (by rwa [getD_set_other (by omega)] at hL))⟩
  rw [if_pos rfl]
  exact setRow_heap _ _ _ _ _ _ b2
end
theorem reg4_7 {id : Nat} {a00 : Act} {Q : Exit → Act → World → Prop} (w1 : World) (A1 A2 : Nat) (p q : Nat → Int) (za zb : Nat → Int) (xa xb : Option Addr) (n ca m cb : Nat) (hs : a00.tmps.size = 69)
    (hp1 : a00.eval (.tmp 4) = .pointer (some ⟨A1, 0, none⟩)) (hp2 : a00.eval (.tmp 3) = .pointer (some ⟨A2, 0, none⟩)) (hA : w1.heap[A1]? = some (.cells (dA p xa n ca) 31 (0, 0))) (hB : w1.heap[A2]? = some (.cells (dA q xb m cb) 31 (0, 0)))
    (hn : n ≤ 65536) (hm : m ≤ 65536) (ha : Row w1 xa (n * 2) (zc za)) (hb : Row w1 xb (m * 2) (zc zb)) (hna : xa = none → n = 0 ∧ ca = 0) (hnb : xb = none → m = 0 ∧ cb = 0)
    (hQ : ∀ (a' : Act) (w' : World) (t : T4), a'.defers = a00.defers → a'.tmps.size = 69 → (∀ d, outB ops4_7 d = true → a'.eval (.tmp d) = a00.eval (.tmp d)) → a'.eval (.tmp 12) = .pointer (some ⟨t.g2, 0, none⟩) → Below w1.heap.size w1 w' → OwnS w' 33 t.y (m + n) t.f (cat zb m za) w1.heap.size → w'.heap[t.g2]? = some (.cells (dA (mp p q) t.y (m + n) t.f) 36 (0, 0)) → Q .normal a' w') :
    (Code.region id ops4_7 true).wp Try.prog Q a00 w1 := by
  refine wp_region_sl (Θ := T4) (by kernel_rfl) (fun t => V4_7 p q xa xb n ca m cb t) (fun t => W4_7 w1 A1 A2 p q za zb xa xb n ca m cb t) (by kernel_rfl) (by rw [hs]; kernel_rfl) ⟨none, 0, none, 0, none, 0, none, 0, 0, 0⟩ ?_ ?_ ?_
  · have hf : ∀ j, (Array.replicate ops4_7.size false).getD j false = false := fun j => by
      rw [Array.getD_eq_getD_getElem?, Array.getElem?_replicate]
      split <;> rfl
    unfold W4_7
    simp only [hf]
    exact ⟨(Below.refl _ _).drew, (fun x => by cases x), (fun x => by cases x), (fun x => by cases x), (fun x => by cases x), (fun x => by cases x), (fun x => by cases x), (fun x => by cases x), (fun x => by cases x), (fun _ _ x => by cases x)⟩
  · intro i o t L ac w' ho hL hu hall hS hW
    have hi : i < 12 := by rw [← size4_7]; exact (Array.getElem?_eq_some_iff.1 ho).1
    have hLs : L.size = 12 := by rw [hL]; exact size4_7
    have uf := getD_false_of_unlisted hu
    have rcs : i = 0 ∨ i = 1 ∨ i = 2 ∨ i = 3 ∨ i = 4 ∨ i = 5 ∨ i = 6 ∨ i = 7 ∨ i = 8 ∨ i = 9 ∨ i = 10 ∨ i = 11 := by omega
    rcases rcs with rfl | rfl | rfl | rfl | rfl | rfl | rfl | rfl | rfl | rfl | rfl | rfl
    · have ho1 := at_op (q := Op.load 31 (Operand.tmp 4)) (by kernel_rfl) ho
      have hx : ac.eval (.tmp 4) = .pointer (some ⟨A1, 0, none⟩) := (hS.out (by kernel_rfl)).trans hp1
      exact wp_load_row 31 _ ho1 A1 hx 31 (dA p xa n ca) (0, 0) _ (blk hA hW.1) Try.underlying31 rfl (by kernel_rfl) ⟨t, rfl, fun _ _ => rfl, (hW.next (i := 0) (by omega) (by omega) (by omega) (by omega) (by omega) (by omega) (by omega) (fun h => absurd h (by omega)) (Below.refl _ _))⟩
    · have ho1 := at_op (q := Op.call { callee := Callee.value (Operand.func 8), args := #[Operand.tmp 52], argTypes := #[31] }) (by kernel_rfl) ho
      have hx : ac.eval (.tmp 52) = .agg (dA p xa n ca) := hS.arg (p := 0) (d := 52) ho hall (by kernel_rfl) (by kernel_rfl)
      have hrun : (execOp ac.eval o).run Try.prog w' = .ok (.enter 8 #[.agg (dA p xa n ca)]) w' := by
        unfold execOp
        simp only [ho1, List.map_toArray, List.map_cons, List.map_nil, hx]
        go_simp
        simpa [Act.eval] using hx
      refine k_call hrun (R := fun v w2 => ∃ a' c', v = .agg (dA p a' n c') ∧ Below w'.heap.size w' w2 ∧ OwnS w2 33 a' n c' za w'.heap.size) ((conv8 w' p za _ n _ (by omega) (ha.below hW.1) hna).mono fun e w2 ⟨a', c', h1, h2, h3⟩ => ⟨_, h1, a', c', rfl, h2, h3⟩) ?_
      rintro v w2 ⟨a', c', rfl, hb2, hown⟩
      refine ⟨{ t with a := a', c := c' }, rfl, fun j hj => ?_, hW.c1 hLs hb2 hown⟩
      have hj1 : j ≠ 1 := fun h => by rw [h, uf] at hj; cases hj
      unfold V4_7
      simp only [if_neg hj1]
    · have ho1 := at_op (q := Op.load 31 (Operand.tmp 3)) (by kernel_rfl) ho
      have hx : ac.eval (.tmp 3) = .pointer (some ⟨A2, 0, none⟩) := (hS.out (by kernel_rfl)).trans hp2
      exact wp_load_row 31 _ ho1 A2 hx 31 (dA q xb m cb) (0, 0) _ (blk hB hW.1) Try.underlying31 rfl (by kernel_rfl) ⟨t, rfl, fun _ _ => rfl, (hW.next (i := 2) (by omega) (by omega) (by omega) (by omega) (by omega) (by omega) (by omega) (fun h => absurd h (by omega)) (Below.refl _ _))⟩
    · have ho1 := at_op (q := Op.call { callee := Callee.value (Operand.func 8), args := #[Operand.tmp 54], argTypes := #[31] }) (by kernel_rfl) ho
      have hx : ac.eval (.tmp 54) = .agg (dA q xb m cb) := hS.arg (p := 2) (d := 54) ho hall (by kernel_rfl) (by kernel_rfl)
      have hrun : (execOp ac.eval o).run Try.prog w' = .ok (.enter 8 #[.agg (dA q xb m cb)]) w' := by
        unfold execOp
        simp only [ho1, List.map_toArray, List.map_cons, List.map_nil, hx]
        go_simp
        simpa [Act.eval] using hx
      refine k_call hrun (R := fun v w2 => ∃ a' c', v = .agg (dA q a' m c') ∧ Below w'.heap.size w' w2 ∧ OwnS w2 33 a' m c' zb w'.heap.size) ((conv8 w' q zb _ m _ (by omega) (hb.below hW.1) hnb).mono fun e w2 ⟨a', c', h1, h2, h3⟩ => ⟨_, h1, a', c', rfl, h2, h3⟩) ?_
      rintro v w2 ⟨a', c', rfl, hb2, hown⟩
      refine ⟨{ t with b := a', d := c' }, rfl, fun j hj => ?_, hW.c2 hLs hb2 hown⟩
      have hj1 : j ≠ 3 := fun h => by rw [h, uf] at hj; cases hj
      unfold V4_7
      simp only [if_neg hj1]
    · have ho1 := at_op (q := Op.call { callee := Callee.value (Operand.func 7), args := #[Operand.tmp 53, Operand.tmp 55], argTypes := #[36, 36] }) (by kernel_rfl) ho
      have hx : ac.eval (.tmp 53) = .agg (dA p t.a n t.c) := hS.arg (p := 1) (d := 53) ho hall (by kernel_rfl) (by kernel_rfl)
      have hy : ac.eval (.tmp 55) = .agg (dA q t.b m t.d) := hS.arg (p := 3) (d := 55) ho hall (by kernel_rfl) (by kernel_rfl)
      have hrun : (execOp ac.eval o).run Try.prog w' = .ok (.enter 7 #[.agg (dA p t.a n t.c), .agg (dA q t.b m t.d)]) w' := by
        unfold execOp
        simp only [ho1, List.map_toArray, List.map_cons, List.map_nil, hx, hy]
        go_simp
        exact ⟨by simpa [Act.eval] using hx, by simpa [Act.eval] using hy⟩
      refine k_call hrun (R := fun v w2 => ∃ a c b d, v = .tuple #[.agg (dA p a n c), .agg (dA (mp p q) b (m + n) d)] ∧ OwnS w2 33 b (m + n) d (cat zb m za) w'.heap.size ∧ Below w'.heap.size w' w2) ((merge7 w' p q za zb _ _ n _ m _ hn hm (hW.2.1 (dep_listed (p := 1) (by kernel_rfl) ho hall) uf).row (hW.2.2.1 (dep_listed (p := 3) (by kernel_rfl) ho hall) uf).row (hW.2.1 (dep_listed (p := 1) (by kernel_rfl) ho hall) uf).nil (hW.2.2.1 (dep_listed (p := 3) (by kernel_rfl) ho hall) uf).nil).mono fun e w2 ⟨a, c, b, d, h1, h2, h3⟩ => ⟨_, h1, a, c, b, d, rfl, h2, h3⟩) ?_
      rintro v w2 ⟨x', e', y', f', rfl, hown, hb2⟩
      refine ⟨{ t with x := x', e := e', y := y', f := f' }, rfl, fun j hj => ?_, hW.c7 hLs uf hb2 hown⟩
      have hj1 : j ≠ 4 := fun h => by rw [h, uf] at hj; cases hj
      have hj2 : j ≠ 5 := fun h => by have := hW.2.2.2.2.2.2.2.2.2 j (by omega) hj; rw [uf] at this; cases this
      have hj3 : j ≠ 6 := fun h => by have := hW.2.2.2.2.2.2.2.2.2 j (by omega) hj; rw [uf] at this; cases this
      have hj4 : j ≠ 7 := fun h => by have := hW.2.2.2.2.2.2.2.2.2 j (by omega) hj; rw [uf] at this; cases this
      unfold V4_7
      simp only [if_neg hj1, if_neg hj2, if_neg hj3, if_neg hj4]
    · have ho1 := at_op (q := Op.move (Operand.tmp 56)) (by kernel_rfl) ho
      have hx : ac.eval (.tmp 56) = .tuple #[.agg (dA p t.x n t.e), .agg (dA (mp p q) t.y (m + n) t.f)] := hS.arg (p := 4) (d := 56) ho hall (by kernel_rfl) (by kernel_rfl)
      exact pure_op (t := t) (V := fun t => V4_7 p q xa xb n ca m cb t) (W := fun t => W4_7 w1 A1 A2 p q za zb xa xb n ca m cb t) (v := .tuple #[.agg (dA p t.x n t.e), .agg (dA (mp p q) t.y (m + n) t.f)]) (k_move _ ho1 hx) rfl (hW.next (i := 5) (by omega) (by omega) (by omega) (by omega) (by omega) (by omega) (by omega) (fun _ => dep_listed (p := 4) (by kernel_rfl) ho hall) (Below.refl _ _))
    · have ho1 := at_op (q := Op.extract (Operand.tmp 51) 0) (by kernel_rfl) ho
      have hx : ac.eval (.tmp 51) = .tuple #[.agg (dA p t.x n t.e), .agg (dA (mp p q) t.y (m + n) t.f)] := hS.arg (p := 5) (d := 51) ho hall (by kernel_rfl) (by kernel_rfl)
      refine pure_op (t := t) (V := fun t => V4_7 p q xa xb n ca m cb t) (W := fun t => W4_7 w1 A1 A2 p q za zb xa xb n ca m cb t) (v := .agg (dA p t.x n t.e)) ?_ rfl (hW.next (i := 6) (by omega) (by omega) (by omega) (by omega) (by omega) (by omega) (by omega) (fun _ => hW.2.2.2.2.2.2.2.2.2 5 (.inl rfl) (dep_listed (p := 5) (by kernel_rfl) ho hall)) (Below.refl _ _))
      unfold execOp
      simp only [ho1, hx]
      go_simp
    · have ho1 := at_op (q := Op.extract (Operand.tmp 51) 1) (by kernel_rfl) ho
      have hx : ac.eval (.tmp 51) = .tuple #[.agg (dA p t.x n t.e), .agg (dA (mp p q) t.y (m + n) t.f)] := hS.arg (p := 5) (d := 51) ho hall (by kernel_rfl) (by kernel_rfl)
      refine pure_op (t := t) (V := fun t => V4_7 p q xa xb n ca m cb t) (W := fun t => W4_7 w1 A1 A2 p q za zb xa xb n ca m cb t) (v := .agg (dA (mp p q) t.y (m + n) t.f)) ?_ rfl (hW.next (i := 7) (by omega) (by omega) (by omega) (by omega) (by omega) (by omega) (by omega) (fun _ => hW.2.2.2.2.2.2.2.2.2 5 (.inl rfl) (dep_listed (p := 5) (by kernel_rfl) ho hall)) (Below.refl _ _))
      unfold execOp
      simp only [ho1, hx]
      go_simp
    · have ho1 := at_op (q := Op.alloc 36) (by kernel_rfl) ho
      have hrun : (execOp ac.eval o).run Try.prog w' = .ok (.value (.pointer (some ⟨w'.heap.size, 0, none⟩))) (w'.alloc (.cells #[.int .i32 0, .int .i32 0, .int .i32 0, .int .i32 0, .int .i32 0, .int .i32 0, .slice none 0 0] 36)) := by
        unfold execOp
        simp only [ho1]
        go_simp
      unfold Oper.wp
      rw [hrun, Oper.upon_value]
      refine ⟨{ t with g1 := w'.heap.size }, rfl, fun j hj => ?_, hW.al8 hLs uf⟩
      have hj1 : j ≠ 8 := fun h => by rw [h, uf] at hj; cases hj
      unfold V4_7
      simp only [if_neg hj1]
    · have ho1 := at_op (q := Op.alloc 36) (by kernel_rfl) ho
      have hrun : (execOp ac.eval o).run Try.prog w' = .ok (.value (.pointer (some ⟨w'.heap.size, 0, none⟩))) (w'.alloc (.cells #[.int .i32 0, .int .i32 0, .int .i32 0, .int .i32 0, .int .i32 0, .int .i32 0, .slice none 0 0] 36)) := by
        unfold execOp
        simp only [ho1]
        go_simp
      unfold Oper.wp
      rw [hrun, Oper.upon_value]
      refine ⟨{ t with g2 := w'.heap.size }, rfl, fun j hj => ?_, hW.al9 hLs uf⟩
      have hj1 : j ≠ 9 := fun h => by rw [h, uf] at hj; cases hj
      unfold V4_7
      simp only [if_neg hj1]
    · have ho1 := at_op (q := Op.store 36 (Operand.tmp 11) (Operand.tmp 57)) (by kernel_rfl) ho
      have hd := at_dst (d := none) (by kernel_rfl) ho
      have hx : ac.eval (.tmp 11) = .pointer (some ⟨t.g1, 0, none⟩) := hS.arg (p := 8) (d := 11) ho hall (by kernel_rfl) (by kernel_rfl)
      have hy : ac.eval (.tmp 57) = .agg (dA p t.x n t.e) := hS.arg (p := 6) (d := 57) ho hall (by kernel_rfl) (by kernel_rfl)
      have kg := dep_listed (p := 8) (by kernel_rfl) ho hall
      have k7 := (dep_listed (p := 4) (by kernel_rfl) ho hall)
      obtain ⟨b1, b2, b3⟩ := hW.2.2.2.2.1 kg
      rw [uf, if_neg Bool.false_ne_true] at b2
      exact wp_store_row 36 _ _ ho1 t.g1 _ hx hy 36 _ b2 (by kernel_rfl) rfl (by kernel_rfl) ⟨t, by rw [hd]; rfl, fun _ _ => rfl, hW.st10 hLs k7 kg⟩
    · have ho1 := at_op (q := Op.store 36 (Operand.tmp 12) (Operand.tmp 58)) (by kernel_rfl) ho
      have hd := at_dst (d := none) (by kernel_rfl) ho
      have hx : ac.eval (.tmp 12) = .pointer (some ⟨t.g2, 0, none⟩) := hS.arg (p := 9) (d := 12) ho hall (by kernel_rfl) (by kernel_rfl)
      have hy : ac.eval (.tmp 58) = .agg (dA (mp p q) t.y (m + n) t.f) := hS.arg (p := 7) (d := 58) ho hall (by kernel_rfl) (by kernel_rfl)
      have kg := dep_listed (p := 9) (by kernel_rfl) ho hall
      have k7 := (hW.2.2.2.2.2.2.2.1 (dep_listed (p := 10) (by kernel_rfl) ho hall)).1
      obtain ⟨b1, b2, b3⟩ := hW.2.2.2.2.2.1 kg
      rw [uf, if_neg Bool.false_ne_true] at b2
      exact wp_store_row 36 _ _ ho1 t.g2 _ hx hy 36 _ b2 (by kernel_rfl) rfl (by kernel_rfl) ⟨t, by rw [hd]; rfl, fun _ _ => rfl, hW.st11 hLs k7 kg⟩
  · intro t L ac w' hall hS hW
    have k1 := hall 9 (by rw [size4_7]; omega)
    obtain ⟨b1, b2, b3⟩ := hW.2.2.2.2.2.1 k1
    rw [hall 11 (by rw [size4_7]; omega), if_pos rfl] at b2
    exact hQ ac w' t hS.1 (hS.2.1.trans hs) (fun d hd => hS.out hd) (hS.2.2.2 9 12 k1 (by kernel_rfl)) hW.1 (hW.2.2.2.1 (hall 4 (by rw [size4_7]; omega))) b2
noncomputable def ops4_8 : Array Oper := (Try.f4.body.bind (regOps 8)).getD #[]
theorem size4_8 : ops4_8.size = 11 := by kernel_rfl
noncomputable def V4_8 (p q : Nat → Int) (xa xb : Option Addr) (n ca m cb : Nat) (t : T4) (i : Nat) : Value := if i = 2 then .agg (dA q t.b m t.d) else if i = 3 then .tuple #[.agg (dA p t.x n t.e), .agg (dA (mp p q) t.y (m + n) t.f)] else if i = 4 then .tuple #[.agg (dA p t.x n t.e), .agg (dA (mp p q) t.y (m + n) t.f)] else if i = 5 then .agg (dA p t.x n t.e) else if i = 6 then .agg (dA (mp p q) t.y (m + n) t.f) else if i = 7 then .pointer (some ⟨t.g1, 0, none⟩) else if i = 8 then .pointer (some ⟨t.g2, 0, none⟩) else [.agg (dA p xa n ca), .agg (dA q xb m cb), undef, undef, undef, undef, undef, undef, undef, undef, undef].getD i undef
def W4_8 (w1 : World) (A1 A2 : Nat) (p q : Nat → Int) (za zb : Nat → Int) (xa xb : Option Addr) (n ca m cb : Nat) (t : T4) (L : Array Bool) (w' : World) : Prop := Below w1.heap.size w1 w' ∧ True ∧ (L.getD 2 false = true → L.getD 3 false = false → OwnS w' 33 t.b m t.d zb w1.heap.size) ∧ (L.getD 3 false = true → OwnS w' 33 t.y (m + n) t.f (cat zb m za) w1.heap.size) ∧ (L.getD 7 false = true → w1.heap.size ≤ t.g1 ∧ w'.heap[t.g1]? = some (.cells (if L.getD 9 false = true then dA p t.x n t.e else #[.int .i32 0, .int .i32 0, .int .i32 0, .int .i32 0, .int .i32 0, .int .i32 0, .slice none 0 0]) 36 (0, 0)) ∧ (L.getD 3 false = true → ∀ x, t.y = some x → x.block ≠ t.g1)) ∧ (L.getD 8 false = true → w1.heap.size ≤ t.g2 ∧ w'.heap[t.g2]? = some (.cells (if L.getD 10 false = true then dA (mp p q) t.y (m + n) t.f else #[.int .i32 0, .int .i32 0, .int .i32 0, .int .i32 0, .int .i32 0, .int .i32 0, .slice none 0 0]) 36 (0, 0)) ∧ (L.getD 3 false = true → ∀ x, t.y = some x → x.block ≠ t.g2)) ∧ (L.getD 7 false = true → L.getD 8 false = true → t.g1 ≠ t.g2) ∧ (L.getD 9 false = true → L.getD 3 false = true ∧ L.getD 7 false = true) ∧ (L.getD 10 false = true → L.getD 3 false = true ∧ L.getD 8 false = true) ∧ (∀ j, j = 4 ∨ j = 5 ∨ j = 6 → L.getD j false = true → L.getD 3 false = true)
section
variable {w1 : World} {A1 A2 : Nat} {p q : Nat → Int} {za zb : Nat → Int} {xa xb : Option Addr} {n ca m cb : Nat} {t : T4} {L : Array Bool} {w' w2 : World} {i : Nat}
theorem W4_8.next (h : W4_8 w1 A1 A2 p q za zb xa xb n ca m cb t L w') (h2 : i ≠ 2) (h3 : i ≠ 3) (h7 : i ≠ 7) (h8 : i ≠ 8) (h9 : i ≠ 9) (h10 : i ≠ 10) (hc : i = 4 ∨ i = 5 ∨ i = 6 → L.getD 3 false = true) (hb : Below w'.heap.size w' w2) : W4_8 w1 A1 A2 p q za zb xa xb n ca m cb t (L.setIfInBounds i true) w2 := by
  unfold W4_8
  rw [getD_set_other h2, getD_set_other h3, getD_set_other h7, getD_set_other h8, getD_set_other h9, getD_set_other h10]
  obtain ⟨a1, a2, a3, a4, a5, a6, a7, a8, a9, a10⟩ := h
  refine ⟨a1.trans (hb.mono a1.size), trivial, fun x y => (a3 x y).below hb, fun x => (a4 x).below hb, fun x => ?_, fun x => ?_, a7, a8, a9, fun j hj hL => ?_⟩
  · obtain ⟨b1, b2, b3⟩ := a5 x
    exact ⟨b1, (hb.block _ (lt_of_block b2)).trans b2, b3⟩
  · obtain ⟨b1, b2, b3⟩ := a6 x
    exact ⟨b1, (hb.block _ (lt_of_block b2)).trans b2, b3⟩
  · by_cases e : i = j
    · subst e; exact hc hj
    · rw [getD_set_other e] at hL; exact a10 j hj hL
theorem W4_8.c2 {a' : Option Addr} {c' : Nat} (h : W4_8 w1 A1 A2 p q za zb xa xb n ca m cb t L w') (hs : L.size = 11) (hb : Below w'.heap.size w' w2) (ho : OwnS w2 33 a' m c' zb w'.heap.size) : W4_8 w1 A1 A2 p q za zb xa xb n ca m cb { t with b := a', d := c' } (L.setIfInBounds 2 true) w2 := by
  unfold W4_8
  rw [getD_set_same (i := 2) (by omega), getD_set_other (i := 2) (j := 3) (by omega), getD_set_other (i := 2) (j := 7) (by omega), getD_set_other (i := 2) (j := 8) (by omega), getD_set_other (i := 2) (j := 9) (by omega), getD_set_other (i := 2) (j := 10) (by omega)]
  obtain ⟨a1, a2, a3, a4, a5, a6, a7, a8, a9, a10⟩ := h
  exact ⟨a1.trans (hb.mono a1.size), trivial, fun _ _ => ho.base a1.size, fun x => (a4 x).below hb, (fun x => ⟨(a5 x).1, (hb.block _ (lt_of_block (a5 x).2.1)).trans (a5 x).2.1, (a5 x).2.2⟩), (fun x => ⟨(a6 x).1, (hb.block _ (lt_of_block (a6 x).2.1)).trans (a6 x).2.1, (a6 x).2.2⟩), a7, a8, a9, (fun j hj hL => a10 j hj (by rwa [getD_set_other (by omega)] at hL))⟩
theorem W4_8.c7 {x' y' : Option Addr} {e' f' : Nat} (h : W4_8 w1 A1 A2 p q za zb xa xb n ca m cb t L w') (hs : L.size = 11) (hu : L.getD 3 false = false) (hb : Below w'.heap.size w' w2) (ho : OwnS w2 33 y' (m + n) f' (cat zb m za) w'.heap.size) : W4_8 w1 A1 A2 p q za zb xa xb n ca m cb { t with x := x', e := e', y := y', f := f' } (L.setIfInBounds 3 true) w2 := by
  unfold W4_8
  rw [getD_set_same (i := 3) (by omega), getD_set_other (i := 3) (j := 2) (by omega), getD_set_other (i := 3) (j := 7) (by omega), getD_set_other (i := 3) (j := 8) (by omega), getD_set_other (i := 3) (j := 9) (by omega), getD_set_other (i := 3) (j := 10) (by omega)]
  obtain ⟨a1, a2, a3, a4, a5, a6, a7, a8, a9, a10⟩ := h
  have n9 : L.getD 9 false = false := by
    cases e : L.getD 9 false
    · rfl
    · have := (a8 e).1; rw [hu] at this; cases this
  have n10 : L.getD 10 false = false := by
    cases e : L.getD 10 false
    · rfl
    · have := (a9 e).1; rw [hu] at this; cases this
  rw [n9, if_neg Bool.false_ne_true] at a5 ⊢
  rw [n10, if_neg Bool.false_ne_true] at a6 ⊢
  refine ⟨a1.trans (hb.mono a1.size), trivial, (fun _ x => by cases x), fun _ => ho.base a1.size, fun x => ?_, fun x => ?_, a7, fun x => ?_, fun x => ?_, fun _ _ _ => rfl⟩
  · obtain ⟨b1, b2, b3⟩ := a5 x
    exact ⟨b1, (hb.block _ (lt_of_block b2)).trans b2, fun _ y hy => by have := ho.ge y hy; have := lt_of_block b2; show y.block ≠ t.g1; omega⟩
  · obtain ⟨b1, b2, b3⟩ := a6 x
    exact ⟨b1, (hb.block _ (lt_of_block b2)).trans b2, fun _ y hy => by have := ho.ge y hy; have := lt_of_block b2; show y.block ≠ t.g2; omega⟩
  · first | (rw [n9] at x; cases x) | cases x
  · first | (rw [n10] at x; cases x) | cases x
theorem W4_8.al7 (h : W4_8 w1 A1 A2 p q za zb xa xb n ca m cb t L w') (hs : L.size = 11) (hu : L.getD 7 false = false) : W4_8 w1 A1 A2 p q za zb xa xb n ca m cb { t with g1 := w'.heap.size } (L.setIfInBounds 7 true) (w'.alloc (.cells #[.int .i32 0, .int .i32 0, .int .i32 0, .int .i32 0, .int .i32 0, .int .i32 0, .slice none 0 0] 36)) := by
  have hb : Below w'.heap.size w' (w'.alloc (.cells #[.int .i32 0, .int .i32 0, .int .i32 0, .int .i32 0, .int .i32 0, .int .i32 0, .slice none 0 0] 36)) := (Below.refl _ _).alloc (Nat.le_refl _) _
  unfold W4_8
  rw [getD_set_same (i := 7) (by omega), getD_set_other (i := 7) (j := 2) (by omega), getD_set_other (i := 7) (j := 3) (by omega), getD_set_other (i := 7) (j := 8) (by omega), getD_set_other (i := 7) (j := 9) (by omega), getD_set_other (i := 7) (j := 10) (by omega)]
  obtain ⟨a1, a2, a3, a4, a5, a6, a7, a8, a9, a10⟩ := h
  have n9 : L.getD 9 false = false := by
    cases e : L.getD 9 false
    · rfl
    · have := (a8 e).2; rw [hu] at this; cases this
  rw [n9, if_neg Bool.false_ne_true]
  exact ⟨a1.trans (hb.mono a1.size), trivial, fun x y => (a3 x y).below hb, fun x => (a4 x).below hb, (fun _ => ⟨a1.size, heap_alloc_new _ _, fun z y hy => by have := (a4 z).lt y hy; show y.block ≠ w'.heap.size; omega⟩), (fun x => ⟨(a6 x).1, (hb.block _ (lt_of_block (a6 x).2.1)).trans (a6 x).2.1, (a6 x).2.2⟩), fun _ x => by have := lt_of_block (a6 x).2.1; show w'.heap.size ≠ t.g2; omega, (fun x => by cases x), a9, (fun j hj hL => a10 j hj (by rwa [getD_set_other (by omega)] at hL))⟩
theorem W4_8.al8 (h : W4_8 w1 A1 A2 p q za zb xa xb n ca m cb t L w') (hs : L.size = 11) (hu : L.getD 8 false = false) : W4_8 w1 A1 A2 p q za zb xa xb n ca m cb { t with g2 := w'.heap.size } (L.setIfInBounds 8 true) (w'.alloc (.cells #[.int .i32 0, .int .i32 0, .int .i32 0, .int .i32 0, .int .i32 0, .int .i32 0, .slice none 0 0] 36)) := by
  have hb : Below w'.heap.size w' (w'.alloc (.cells #[.int .i32 0, .int .i32 0, .int .i32 0, .int .i32 0, .int .i32 0, .int .i32 0, .slice none 0 0] 36)) := (Below.refl _ _).alloc (Nat.le_refl _) _
  unfold W4_8
  rw [getD_set_same (i := 8) (by omega), getD_set_other (i := 8) (j := 2) (by omega), getD_set_other (i := 8) (j := 3) (by omega), getD_set_other (i := 8) (j := 7) (by omega), getD_set_other (i := 8) (j := 9) (by omega), getD_set_other (i := 8) (j := 10) (by omega)]
  obtain ⟨a1, a2, a3, a4, a5, a6, a7, a8, a9, a10⟩ := h
  have n10 : L.getD 10 false = false := by
    cases e : L.getD 10 false
    · rfl
    · have := (a9 e).2; rw [hu] at this; cases this
  rw [n10, if_neg Bool.false_ne_true]
  exact ⟨a1.trans (hb.mono a1.size), trivial, fun x y => (a3 x y).below hb, fun x => (a4 x).below hb, (fun x => ⟨(a5 x).1, (hb.block _ (lt_of_block (a5 x).2.1)).trans (a5 x).2.1, (a5 x).2.2⟩), (fun _ => ⟨a1.size, heap_alloc_new _ _, fun z y hy => by have := (a4 z).lt y hy; show y.block ≠ w'.heap.size; omega⟩), fun x _ => by have := lt_of_block (a5 x).2.1; show t.g1 ≠ w'.heap.size; omega, a8, (fun x => by cases x), (fun j hj hL => a10 j hj (by rwa [getD_set_other (by omega)] at hL))⟩
theorem W4_8.st9 (h : W4_8 w1 A1 A2 p q za zb xa xb n ca m cb t L w') (hs : L.size = 11) (k7 : L.getD 3 false = true) (kg : L.getD 7 false = true) : W4_8 w1 A1 A2 p q za zb xa xb n ca m cb t (L.setIfInBounds 9 true) (w'.setRow t.g1 (dA p t.x n t.e)) := by
  unfold W4_8
  rw [getD_set_same (i := 9) (by omega), getD_set_other (i := 9) (j := 2) (by omega), getD_set_other (i := 9) (j := 3) (by omega), getD_set_other (i := 9) (j := 7) (by omega), getD_set_other (i := 9) (j := 8) (by omega), getD_set_other (i := 9) (j := 10) (by omega)]
  obtain ⟨a1, a2, a3, a4, a5, a6, a7, a8, a9, a10⟩ := h
  obtain ⟨b1, b2, b3⟩ := a5 kg
  refine ⟨below_setRow a1 b1 _, trivial, (fun _ x => by rw [k7] at x; cases x), fun x => (a4 x).setRow2 (b3 k7), fun _ => ⟨b1, ?_, b3⟩, fun x => ⟨(a6 x).1, (setRow_other _ _ _ _ (Ne.symm (a7 kg x))).trans (a6 x).2.1, (a6 x).2.2⟩, a7, fun _ => ⟨k7, kg⟩, a9, (fun j hj hL => a10 j hj (by rwa [getD_set_other (by omega)] at hL))⟩
  rw [if_pos rfl]
  exact setRow_heap _ _ _ _ _ _ b2
theorem W4_8.st10 (h : W4_8 w1 A1 A2 p q za zb xa xb n ca m cb t L w') (hs : L.size = 11) (k7 : L.getD 3 false = true) (kg : L.getD 8 false = true) : W4_8 w1 A1 A2 p q za zb xa xb n ca m cb t (L.setIfInBounds 10 true) (w'.setRow t.g2 (dA (mp p q) t.y (m + n) t.f)) := by
  unfold W4_8
  rw [getD_set_same (i := 10) (by omega), getD_set_other (i := 10) (j := 2) (by omega), getD_set_other (i := 10) (j := 3) (by omega), getD_set_other (i := 10) (j := 7) (by omega), getD_set_other (i := 10) (j := 8) (by omega), getD_set_other (i := 10) (j := 9) (by omega)]
  obtain ⟨a1, a2, a3, a4, a5, a6, a7, a8, a9, a10⟩ := h
  obtain ⟨b1, b2, b3⟩ := a6 kg
  refine ⟨below_setRow a1 b1 _, trivial, (fun _ x => by rw [k7] at x; cases x), fun x => (a4 x).setRow2 (b3 k7), fun x => ⟨(a5 x).1, (setRow_other _ _ _ _ (a7 x kg)).trans (a5 x).2.1, (a5 x).2.2⟩, fun _ => ⟨b1, ?_, b3⟩, a7, a8, fun _ => ⟨k7, kg⟩, (fun j hj hL => a10 j hj (by rwa [getD_set_other (by omega)] at hL))⟩
  rw [if_pos rfl]
  exact setRow_heap _ _ _ _ _ _ b2
end
theorem reg4_8 {id : Nat} {a00 : Act} {Q : Exit → Act → World → Prop} (w1 : World) (A1 A2 : Nat) (p q : Nat → Int) (za zb : Nat → Int) (xa xb : Option Addr) (n ca m cb : Nat) (hs : a00.tmps.size = 69)
    (hp1 : a00.eval (.tmp 12) = .pointer (some ⟨A1, 0, none⟩)) (hp2 : a00.eval (.tmp 5) = .pointer (some ⟨A2, 0, none⟩)) (hA : w1.heap[A1]? = some (.cells (dA p xa n ca) 36 (0, 0))) (hB : w1.heap[A2]? = some (.cells (dA q xb m cb) 31 (0, 0)))
    (hn : n ≤ 65536) (hm : m ≤ 65536) (ha : Row w1 xa (n * 2) (zc za)) (hb : Row w1 xb (m * 2) (zc zb)) (hna : xa = none → n = 0 ∧ ca = 0) (hnb : xb = none → m = 0 ∧ cb = 0)
    (hQ : ∀ (a' : Act) (w' : World) (t : T4), a'.defers = a00.defers → a'.tmps.size = 69 → (∀ d, outB ops4_8 d = true → a'.eval (.tmp d) = a00.eval (.tmp d)) → a'.eval (.tmp 14) = .pointer (some ⟨t.g2, 0, none⟩) → Below w1.heap.size w1 w' → OwnS w' 33 t.y (m + n) t.f (cat zb m za) w1.heap.size → w'.heap[t.g2]? = some (.cells (dA (mp p q) t.y (m + n) t.f) 36 (0, 0)) → Q .normal a' w') :
    (Code.region id ops4_8 true).wp Try.prog Q a00 w1 := by
  refine wp_region_sl (Θ := T4) (by kernel_rfl) (fun t => V4_8 p q xa xb n ca m cb t) (fun t => W4_8 w1 A1 A2 p q za zb xa xb n ca m cb t) (by kernel_rfl) (by rw [hs]; kernel_rfl) ⟨none, 0, none, 0, none, 0, none, 0, 0, 0⟩ ?_ ?_ ?_
  · have hf : ∀ j, (Array.replicate ops4_8.size false).getD j false = false := fun j => by
      rw [Array.getD_eq_getD_getElem?, Array.getElem?_replicate]
      split <;> rfl
    unfold W4_8
    simp only [hf]
    exact ⟨(Below.refl _ _).drew, trivial, (fun x => by cases x), (fun x => by cases x), (fun x => by cases x), (fun x => by cases x), (fun x => by cases x), (fun x => by cases x), (fun x => by cases x), (fun _ _ x => by cases x)⟩
  · intro i o t L ac w' ho hL hu hall hS hW
    have hi : i < 11 := by rw [← size4_8]; exact (Array.getElem?_eq_some_iff.1 ho).1
    have hLs : L.size = 11 := by rw [hL]; exact size4_8
    have uf := getD_false_of_unlisted hu
    have rcs : i = 0 ∨ i = 1 ∨ i = 2 ∨ i = 3 ∨ i = 4 ∨ i = 5 ∨ i = 6 ∨ i = 7 ∨ i = 8 ∨ i = 9 ∨ i = 10 := by omega
    rcases rcs with rfl | rfl | rfl | rfl | rfl | rfl | rfl | rfl | rfl | rfl | rfl
    · have ho1 := at_op (q := Op.load 36 (Operand.tmp 12)) (by kernel_rfl) ho
      have hx : ac.eval (.tmp 12) = .pointer (some ⟨A1, 0, none⟩) := (hS.out (by kernel_rfl)).trans hp1
      exact wp_load_row 36 _ ho1 A1 hx 36 (dA p xa n ca) (0, 0) _ (blk hA hW.1) Try.underlying36 rfl (by kernel_rfl) ⟨t, rfl, fun _ _ => rfl, (hW.next (i := 0) (by omega) (by omega) (by omega) (by omega) (by omega) (by omega) (fun h => absurd h (by omega)) (Below.refl _ _))⟩
    · have ho1 := at_op (q := Op.load 31 (Operand.tmp 5)) (by kernel_rfl) ho
      have hx : ac.eval (.tmp 5) = .pointer (some ⟨A2, 0, none⟩) := (hS.out (by kernel_rfl)).trans hp2
      exact wp_load_row 31 _ ho1 A2 hx 31 (dA q xb m cb) (0, 0) _ (blk hB hW.1) Try.underlying31 rfl (by kernel_rfl) ⟨t, rfl, fun _ _ => rfl, (hW.next (i := 1) (by omega) (by omega) (by omega) (by omega) (by omega) (by omega) (fun h => absurd h (by omega)) (Below.refl _ _))⟩
    · have ho1 := at_op (q := Op.call { callee := Callee.value (Operand.func 8), args := #[Operand.tmp 61], argTypes := #[31] }) (by kernel_rfl) ho
      have hx : ac.eval (.tmp 61) = .agg (dA q xb m cb) := hS.arg (p := 1) (d := 61) ho hall (by kernel_rfl) (by kernel_rfl)
      have hrun : (execOp ac.eval o).run Try.prog w' = .ok (.enter 8 #[.agg (dA q xb m cb)]) w' := by
        unfold execOp
        simp only [ho1, List.map_toArray, List.map_cons, List.map_nil, hx]
        go_simp
        simpa [Act.eval] using hx
      refine k_call hrun (R := fun v w2 => ∃ a' c', v = .agg (dA q a' m c') ∧ Below w'.heap.size w' w2 ∧ OwnS w2 33 a' m c' zb w'.heap.size) ((conv8 w' q zb _ m _ (by omega) (hb.below hW.1) hnb).mono fun e w2 ⟨a', c', h1, h2, h3⟩ => ⟨_, h1, a', c', rfl, h2, h3⟩) ?_
      rintro v w2 ⟨a', c', rfl, hb2, hown⟩
      refine ⟨{ t with b := a', d := c' }, rfl, fun j hj => ?_, hW.c2 hLs hb2 hown⟩
      have hj1 : j ≠ 2 := fun h => by rw [h, uf] at hj; cases hj
      unfold V4_8
      simp only [if_neg hj1]
    · have ho1 := at_op (q := Op.call { callee := Callee.value (Operand.func 7), args := #[Operand.tmp 60, Operand.tmp 62], argTypes := #[36, 36] }) (by kernel_rfl) ho
      have hx : ac.eval (.tmp 60) = .agg (dA p xa n ca) := hS.arg (p := 0) (d := 60) ho hall (by kernel_rfl) (by kernel_rfl)
      have hy : ac.eval (.tmp 62) = .agg (dA q t.b m t.d) := hS.arg (p := 2) (d := 62) ho hall (by kernel_rfl) (by kernel_rfl)
      have hrun : (execOp ac.eval o).run Try.prog w' = .ok (.enter 7 #[.agg (dA p xa n ca), .agg (dA q t.b m t.d)]) w' := by
        unfold execOp
        simp only [ho1, List.map_toArray, List.map_cons, List.map_nil, hx, hy]
        go_simp
        exact ⟨by simpa [Act.eval] using hx, by simpa [Act.eval] using hy⟩
      refine k_call hrun (R := fun v w2 => ∃ a c b d, v = .tuple #[.agg (dA p a n c), .agg (dA (mp p q) b (m + n) d)] ∧ OwnS w2 33 b (m + n) d (cat zb m za) w'.heap.size ∧ Below w'.heap.size w' w2) ((merge7 w' p q za zb _ _ n _ m _ hn hm (ha.below hW.1) (hW.2.2.1 (dep_listed (p := 2) (by kernel_rfl) ho hall) uf).row hna (hW.2.2.1 (dep_listed (p := 2) (by kernel_rfl) ho hall) uf).nil).mono fun e w2 ⟨a, c, b, d, h1, h2, h3⟩ => ⟨_, h1, a, c, b, d, rfl, h2, h3⟩) ?_
      rintro v w2 ⟨x', e', y', f', rfl, hown, hb2⟩
      refine ⟨{ t with x := x', e := e', y := y', f := f' }, rfl, fun j hj => ?_, hW.c7 hLs uf hb2 hown⟩
      have hj1 : j ≠ 3 := fun h => by rw [h, uf] at hj; cases hj
      have hj2 : j ≠ 4 := fun h => by have := hW.2.2.2.2.2.2.2.2.2 j (by omega) hj; rw [uf] at this; cases this
      have hj3 : j ≠ 5 := fun h => by have := hW.2.2.2.2.2.2.2.2.2 j (by omega) hj; rw [uf] at this; cases this
      have hj4 : j ≠ 6 := fun h => by have := hW.2.2.2.2.2.2.2.2.2 j (by omega) hj; rw [uf] at this; cases this
      unfold V4_8
      simp only [if_neg hj1, if_neg hj2, if_neg hj3, if_neg hj4]
    · have ho1 := at_op (q := Op.move (Operand.tmp 63)) (by kernel_rfl) ho
      have hx : ac.eval (.tmp 63) = .tuple #[.agg (dA p t.x n t.e), .agg (dA (mp p q) t.y (m + n) t.f)] := hS.arg (p := 3) (d := 63) ho hall (by kernel_rfl) (by kernel_rfl)
      exact pure_op (t := t) (V := fun t => V4_8 p q xa xb n ca m cb t) (W := fun t => W4_8 w1 A1 A2 p q za zb xa xb n ca m cb t) (v := .tuple #[.agg (dA p t.x n t.e), .agg (dA (mp p q) t.y (m + n) t.f)]) (k_move _ ho1 hx) rfl (hW.next (i := 4) (by omega) (by omega) (by omega) (by omega) (by omega) (by omega) (fun _ => dep_listed (p := 3) (by kernel_rfl) ho hall) (Below.refl _ _))
    · have ho1 := at_op (q := Op.extract (Operand.tmp 59) 0) (by kernel_rfl) ho
      have hx : ac.eval (.tmp 59) = .tuple #[.agg (dA p t.x n t.e), .agg (dA (mp p q) t.y (m + n) t.f)] := hS.arg (p := 4) (d := 59) ho hall (by kernel_rfl) (by kernel_rfl)
      refine pure_op (t := t) (V := fun t => V4_8 p q xa xb n ca m cb t) (W := fun t => W4_8 w1 A1 A2 p q za zb xa xb n ca m cb t) (v := .agg (dA p t.x n t.e)) ?_ rfl (hW.next (i := 5) (by omega) (by omega) (by omega) (by omega) (by omega) (by omega) (fun _ => hW.2.2.2.2.2.2.2.2.2 4 (.inl rfl) (dep_listed (p := 4) (by kernel_rfl) ho hall)) (Below.refl _ _))
      unfold execOp
      simp only [ho1, hx]
      go_simp
    · have ho1 := at_op (q := Op.extract (Operand.tmp 59) 1) (by kernel_rfl) ho
      have hx : ac.eval (.tmp 59) = .tuple #[.agg (dA p t.x n t.e), .agg (dA (mp p q) t.y (m + n) t.f)] := hS.arg (p := 4) (d := 59) ho hall (by kernel_rfl) (by kernel_rfl)
      refine pure_op (t := t) (V := fun t => V4_8 p q xa xb n ca m cb t) (W := fun t => W4_8 w1 A1 A2 p q za zb xa xb n ca m cb t) (v := .agg (dA (mp p q) t.y (m + n) t.f)) ?_ rfl (hW.next (i := 6) (by omega) (by omega) (by omega) (by omega) (by omega) (by omega) (fun _ => hW.2.2.2.2.2.2.2.2.2 4 (.inl rfl) (dep_listed (p := 4) (by kernel_rfl) ho hall)) (Below.refl _ _))
      unfold execOp
      simp only [ho1, hx]
      go_simp
    · have ho1 := at_op (q := Op.alloc 36) (by kernel_rfl) ho
      have hrun : (execOp ac.eval o).run Try.prog w' = .ok (.value (.pointer (some ⟨w'.heap.size, 0, none⟩))) (w'.alloc (.cells #[.int .i32 0, .int .i32 0, .int .i32 0, .int .i32 0, .int .i32 0, .int .i32 0, .slice none 0 0] 36)) := by
        unfold execOp
        simp only [ho1]
        go_simp
      unfold Oper.wp
      rw [hrun, Oper.upon_value]
      refine ⟨{ t with g1 := w'.heap.size }, rfl, fun j hj => ?_, hW.al7 hLs uf⟩
      have hj1 : j ≠ 7 := fun h => by rw [h, uf] at hj; cases hj
      unfold V4_8
      simp only [if_neg hj1]
    · have ho1 := at_op (q := Op.alloc 36) (by kernel_rfl) ho
      have hrun : (execOp ac.eval o).run Try.prog w' = .ok (.value (.pointer (some ⟨w'.heap.size, 0, none⟩))) (w'.alloc (.cells #[.int .i32 0, .int .i32 0, .int .i32 0, .int .i32 0, .int .i32 0, .int .i32 0, .slice none 0 0] 36)) := by
        unfold execOp
        simp only [ho1]
        go_simp
      unfold Oper.wp
      rw [hrun, Oper.upon_value]
      refine ⟨{ t with g2 := w'.heap.size }, rfl, fun j hj => ?_, hW.al8 hLs uf⟩
      have hj1 : j ≠ 8 := fun h => by rw [h, uf] at hj; cases hj
      unfold V4_8
      simp only [if_neg hj1]
    · have ho1 := at_op (q := Op.store 36 (Operand.tmp 13) (Operand.tmp 64)) (by kernel_rfl) ho
      have hd := at_dst (d := none) (by kernel_rfl) ho
      have hx : ac.eval (.tmp 13) = .pointer (some ⟨t.g1, 0, none⟩) := hS.arg (p := 7) (d := 13) ho hall (by kernel_rfl) (by kernel_rfl)
      have hy : ac.eval (.tmp 64) = .agg (dA p t.x n t.e) := hS.arg (p := 5) (d := 64) ho hall (by kernel_rfl) (by kernel_rfl)
      have kg := dep_listed (p := 7) (by kernel_rfl) ho hall
      have k7 := (dep_listed (p := 3) (by kernel_rfl) ho hall)
      obtain ⟨b1, b2, b3⟩ := hW.2.2.2.2.1 kg
      rw [uf, if_neg Bool.false_ne_true] at b2
      exact wp_store_row 36 _ _ ho1 t.g1 _ hx hy 36 _ b2 (by kernel_rfl) rfl (by kernel_rfl) ⟨t, by rw [hd]; rfl, fun _ _ => rfl, hW.st9 hLs k7 kg⟩
    · have ho1 := at_op (q := Op.store 36 (Operand.tmp 14) (Operand.tmp 65)) (by kernel_rfl) ho
      have hd := at_dst (d := none) (by kernel_rfl) ho
      have hx : ac.eval (.tmp 14) = .pointer (some ⟨t.g2, 0, none⟩) := hS.arg (p := 8) (d := 14) ho hall (by kernel_rfl) (by kernel_rfl)
      have hy : ac.eval (.tmp 65) = .agg (dA (mp p q) t.y (m + n) t.f) := hS.arg (p := 6) (d := 65) ho hall (by kernel_rfl) (by kernel_rfl)
      have kg := dep_listed (p := 8) (by kernel_rfl) ho hall
      have k7 := (hW.2.2.2.2.2.2.2.1 (dep_listed (p := 9) (by kernel_rfl) ho hall)).1
      obtain ⟨b1, b2, b3⟩ := hW.2.2.2.2.2.1 kg
      rw [uf, if_neg Bool.false_ne_true] at b2
      exact wp_store_row 36 _ _ ho1 t.g2 _ hx hy 36 _ b2 (by kernel_rfl) rfl (by kernel_rfl) ⟨t, by rw [hd]; rfl, fun _ _ => rfl, hW.st10 hLs k7 kg⟩
  · intro t L ac w' hall hS hW
    have k1 := hall 8 (by rw [size4_8]; omega)
    obtain ⟨b1, b2, b3⟩ := hW.2.2.2.2.2.1 k1
    rw [hall 10 (by rw [size4_8]; omega), if_pos rfl] at b2
    exact hQ ac w' t hS.1 (hS.2.1.trans hs) (fun d hd => hS.out hd) (hS.2.2.2 8 14 k1 (by kernel_rfl)) hW.1 (hW.2.2.2.1 (hall 3 (by rw [size4_8]; omega))) b2
end Go.Proofs.Ytjomfebcigiekaa.de
