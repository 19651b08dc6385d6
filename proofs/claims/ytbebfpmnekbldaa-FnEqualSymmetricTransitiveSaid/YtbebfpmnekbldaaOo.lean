/-
  Options: two are compared by value.
-/
import Derived.Test.YtbebfpmnekbldaaOn

namespace Go.Proofs.Ytbebfpmnekbldaa.op
open Go.ChangeShapes Go.WideShapes Go.ChangeAt Go.RowKit Go.Deep
set_option linter.unusedVariables false
set_option linter.unusedSimpArgs false
set_option maxRecDepth 100000
set_option maxHeartbeats 1000000
/-- What the statements vary of an Options value, and what its labels read as. -/
structure Opt where
  m : Option Addr
  r : Option Addr
  la : Option Addr
  ln : Nat
  lc : Nat
  env : ByteArray
  f : Int
  g : Int
  h : Int
  b : Nat → Bool
  y : Bool
  V : Nat → ByteArray
noncomputable def Opt.cells (o : Opt) : Array Value := ov o.m o.r o.la o.ln o.lc o.env o.f o.g o.h (o.b 0) (o.b 1) (o.b 2) (o.b 3) (o.b 4) (o.b 5) (o.b 6) (o.b 7) (o.b 8) (o.b 9) (o.b 10) o.y
def Opt.ok (o : Opt) (w : World) : Prop := Rx w o.m ∧ Rx w o.r ∧ Row w o.la o.ln (fun i => .string (o.V i)) ∧ o.ln ≤ 1048576
theorem Opt.ok.below {o : Opt} {w w' : World} (h : o.ok w) (hb : Below w.heap.size w w') : o.ok w' := ⟨h.1.below hb, h.2.1.below hb, h.2.2.1.below hb, h.2.2.2⟩
theorem Opt.size (o : Opt) : o.cells.size = 51 := ov_size ..
def Opt.Same (o p : Opt) : Prop := o.env = p.env ∧ o.f = p.f ∧ o.g = p.g ∧ o.h = p.h ∧ (∀ i, i < 11 → o.b i = p.b i) ∧ o.y = p.y ∧ o.m.isNone = p.m.isNone ∧ o.r.isNone = p.r.isNone ∧ o.ln = p.ln ∧ ∀ i, i < o.ln → o.V i = p.V i
theorem Opt.Same.refl (o : Opt) : o.Same o := ⟨rfl, rfl, rfl, rfl, fun _ _ => rfl, rfl, rfl, rfl, rfl, fun _ _ => rfl⟩
theorem Opt.Same.symm {o p : Opt} (h : o.Same p) : p.Same o := by
  obtain ⟨a, b, c, d, e, f, g, i, j, k⟩ := h
  exact ⟨a.symm, b.symm, c.symm, d.symm, fun x hx => (e x hx).symm, f.symm, g.symm, i.symm, j.symm, fun x hx => (k x (by omega)).symm⟩
theorem Opt.Same.trans {o p q : Opt} (h : o.Same p) (h' : p.Same q) : o.Same q := by
  obtain ⟨a, b, c, d, e, f, g, i, j, k⟩ := h
  obtain ⟨a', b', c', d', e', f', g', i', j', k'⟩ := h'
  exact ⟨a.trans a', b.trans b', c.trans c', d.trans d', fun x hx => (e x hx).trans (e' x hx), f.trans f', g.trans g', i.trans i', j.trans j', fun x hx => (k x hx).trans (k' x (by omega))⟩
theorem beq_ba {a b : ByteArray} : (a == b) = true ↔ a = b := by
  rw [beq_toListBytes]
  constructor
  · intro h; exact blist_inj (by simpa using h)
  · intro h; subst h; simp
theorem same_iff (o p : Opt) (c : Bool) (hc : SameL o.ln p.ln o.V p.V c) : (EqS o.env o.f o.g o.h (o.b 0) (o.b 1) (o.b 2) (o.b 3) (o.b 4) (o.b 5) (o.b 6) (o.b 7) (o.b 8) (o.b 9) (o.b 10) o.y p.env p.f p.g p.h (p.b 0) (p.b 1) (p.b 2) (p.b 3) (p.b 4) (p.b 5) (p.b 6) (p.b 7) (p.b 8) (p.b 9) (p.b 10) p.y && (o.m.isNone == p.m.isNone) && (o.r.isNone == p.r.isNone) && c) = true ↔ o.Same p := by
  unfold EqS Opt.Same
  simp only [Bool.and_eq_true, beq_ba, beq_iff_eq]
  constructor
  · rintro ⟨⟨⟨h, h1⟩, h2⟩, h3⟩
    have h4 := hc.1 h3
    refine ⟨h.1.1.1.1.1.1.1.1.1.1.1.1.1.1.1, h.1.1.1.1.1.1.1.1.1.1.1.1.1.1.2, h.1.1.1.1.1.1.1.1.1.1.1.1.1.2, h.1.1.1.1.1.1.1.1.1.1.1.1.2, fun i hi => ?_, h.2, h1, h2, h4.1, h4.2⟩
    rcases h with ⟨⟨⟨⟨⟨⟨⟨⟨⟨⟨⟨⟨_, e0⟩, e1⟩, e2⟩, e3⟩, e4⟩, e5⟩, e6⟩, e7⟩, e8⟩, e9⟩, e10⟩, _⟩
    have : i = 0 ∨ i = 1 ∨ i = 2 ∨ i = 3 ∨ i = 4 ∨ i = 5 ∨ i = 6 ∨ i = 7 ∨ i = 8 ∨ i = 9 ∨ i = 10 := by omega
    rcases this with rfl | rfl | rfl | rfl | rfl | rfl | rfl | rfl | rfl | rfl | rfl <;> assumption
  · rintro ⟨a, b, c', d, e, f, g, i, j, k⟩
    exact ⟨⟨⟨⟨⟨⟨⟨⟨⟨⟨⟨⟨⟨⟨⟨⟨⟨⟨a, b⟩, c'⟩, d⟩, e 0 (by omega)⟩, e 1 (by omega)⟩, e 2 (by omega)⟩, e 3 (by omega)⟩, e 4 (by omega)⟩, e 5 (by omega)⟩, e 6 (by omega)⟩, e 7 (by omega)⟩, e 8 (by omega)⟩, e 9 (by omega)⟩, e 10 (by omega)⟩, f⟩, g⟩, i⟩, hc.2 ⟨j, k⟩⟩
theorem eq9 (w : World) (o p : Opt) (c : Bool) (hs : (c = true) ↔ o.Same p) (ho : o.ok w) (hp : p.ok w) :
    Calls Try.prog 9 #[.agg o.cells, .agg p.cells] w fun e w' => e = .returned (.bool c) ∧ Below w.heap.size w w' := by
  classical
  let d : Bool := decide (o.ln = p.ln ∧ ∀ i, i < o.ln → o.V i = p.V i)
  have hd : SameL o.ln p.ln o.V p.V d := by unfold SameL; simp [d]
  have hcd : (EqS o.env o.f o.g o.h (o.b 0) (o.b 1) (o.b 2) (o.b 3) (o.b 4) (o.b 5) (o.b 6) (o.b 7) (o.b 8) (o.b 9) (o.b 10) o.y p.env p.f p.g p.h (p.b 0) (p.b 1) (p.b 2) (p.b 3) (p.b 4) (p.b 5) (p.b 6) (p.b 7) (p.b 8) (p.b 9) (p.b 10) p.y && (o.m.isNone == p.m.isNone) && (o.r.isNone == p.r.isNone) && d) = c := by
    have h1 := (same_iff o p d hd).trans hs.symm
    exact Bool.eq_iff_iff.2 h1
  have hb : Below w.heap.size w ((w.alloc (.cells o.cells 60)).alloc (.cells p.cells 60)) := ((Below.refl _ _).alloc (Nat.le_refl _) _).alloc (by simp) _
  have hA : ((w.alloc (.cells o.cells 60)).alloc (.cells p.cells 60)).heap[w.heap.size]? = some (.cells o.cells 60 (0, 0)) := heap_alloc2_old ..
  have hB : ((w.alloc (.cells o.cells 60)).alloc (.cells p.cells 60)).heap[w.heap.size + 1]? = some (.cells p.cells 60 (0, 0)) := by have := heap_alloc_new (w.alloc (.cells o.cells 60)) (.cells p.cells 60); simpa using this
  have h20 := equal20 _ _ _ _ _ _ _ _ _ _ _ _ _ _ _ _ _ _ _ _ _ _ _ _ _ _ _ _ _ _ _ _ _ _ _ _ _ _ _ _ _ _ _ _ _ hA hB (ho.below hb).1 (ho.below hb).2.1 (hp.below hb).1 (hp.below hb).2.1 o.V p.V ho.2.2.2 (ho.below hb).2.2.1 (hp.below hb).2.2.1 d hd
  rw [hcd] at h20
  have H20 := Lib.hid h20
  have HB := Lib.hid hb
  clear h20 hb hA hB hcd hd hs ho hp
  generalize o.cells = co at *
  generalize p.cells = cp at *
  go_enter Try.func9, Try.ntmps9
  go_wp2_with (go_at_call 20; refine H20.out.mono ?_; rintro e w3 ⟨rfl, hb3⟩)
  go_ret
  exact ⟨rfl, HB.out.trans (hb3.mono (by simp; omega))⟩
def Held (w : World) (l : List (Nat × Opt)) : Prop := ∀ p ∈ l, w.heap[p.1]? = some (.cells p.2.cells 60 (0, 0)) ∧ p.2.ok w
theorem Held.below {w w' : World} {l : List (Nat × Opt)} (h : Held w l) (hb : Below w.heap.size w w') : Held w' l := fun p hp => ⟨(hb.block _ (lt_of_block (h p hp).1)).trans (h p hp).1, (h p hp).2.below hb⟩
theorem Held.ok {w : World} {l : List (Nat × Opt)} (h : Held w l) {c : Opt} (hm : c ∈ l.map (·.2)) : c.ok w := by
  obtain ⟨p, hp, rfl⟩ := List.mem_map.1 hm
  exact (h p hp).2
theorem Held.add {w : World} {l : List (Nat × Opt)} (h : Held w l) (o : Opt) (ho : o.ok w) : Held (w.alloc (.cells o.cells 60)) ((w.heap.size, o) :: l) := by
  have hb : Below w.heap.size w (w.alloc (.cells o.cells 60)) := (Below.refl _ _).alloc (Nat.le_refl _) _
  intro p hp
  rcases List.mem_cons.1 hp with rfl | hp
  · exact ⟨heap_alloc_new _ _, ho.below hb⟩
  · exact h.below hb p hp
def zO : Opt := ⟨none, none, none, 0, 0, ByteArray.empty, 0, 0, 0, fun _ => false, false, fun _ => ByteArray.empty⟩
def yO : Opt := ⟨none, none, none, 0, 0, ByteArray.empty, 0, 0, 0, fun _ => false, true, fun _ => ByteArray.empty⟩
theorem zO_cells : zO.cells = oz := by kernel_rfl
theorem yO_cells : yO.cells = oy := by kernel_rfl
theorem zO_ok (w : World) : zO.ok w := ⟨.inl rfl, .inl rfl, (fun h => by cases h), Nat.zero_le _⟩
theorem yO_ok (w : World) : yO.ok w := ⟨.inl rfl, .inl rfl, (fun h => by cases h), Nat.zero_le _⟩
theorem y_ne (o : Opt) (h : o.y = false) : ¬ yO.Same o ∧ ¬ o.Same yO := ⟨(fun hs => by have := hs.2.2.2.2.2.1; rw [h] at this; cases this), (fun hs => by have := hs.2.2.2.2.2.1; rw [h] at this; cases this)⟩
theorem bitB_zero (i : Nat) : bitB 0 i = false := by
  unfold bitB
  rw [Int.zero_ediv]
  decide
theorem yarn7o (w : World) : Calls Try.prog 7 #[] w (fun e w' => e = .returned (.agg yO.cells) ∧ Below w.heap.size w w') := by rw [yO_cells]; exact yarn7 w
def BldO (w : World) (n : Int) (env : ByteArray) (f g h : Int) (mn rn : Bool) (ln : Nat) (V : Nat → ByteArray) (e : Ending) (w' : World) : Prop :=
  ∃ o : Opt, e = .returned (.agg o.cells) ∧ o.ok w' ∧ o.m.isNone = mn ∧ o.r.isNone = rn ∧ o.y = false ∧ o.ln = ln ∧ o.V = V ∧ o.env = env ∧ o.f = f ∧ o.g = g ∧ o.h = h ∧ o.b = bitB n ∧ Below w.heap.size w w'
theorem build8o (w : World) (n : Int) (env : ByteArray) (f g h : Int) (mn rn : Bool) (la : Option Addr) (ln lc : Nat) (V : Nat → ByteArray) (hn : 0 ≤ n ∧ n < 65536) (hl : ln ≤ 1048576) (hr : Row w la ln (fun i => .string (V i))) (hnil : la = none → ln = 0 ∧ lc = 0) :
    Calls Try.prog 8 #[.agg #[.int .u16 n, .string env, .int .u64 f, .int .u64 g, .int .u64 h, .bool mn, .bool rn, .slice la ln lc]] w (BldO w n env f g h mn rn ln V) := by
  refine (build8 w n env f g h mn rn la ln lc V hn hl hr hnil).mono ?_
  rintro e w' ⟨m, r, la', lc', he, hm, hr', h1, h2, h3, hb⟩
  exact ⟨⟨m, r, la', ln, lc', env, f, g, h, bitB n, false, V⟩, he, ⟨h1, h2, h3, hl⟩, hm, hr', rfl, rfl, rfl, rfl, rfl, rfl, rfl, rfl, hb⟩
section
variable {P : Program} {o : Oper} {a : Act} {w : World} {K : Act → World → Prop} {Q : Exit → Act → World → Prop}
theorem k_run {v : Value} {w' : World} (hrun : (execOp a.eval o).run P w = .ok (.value v) w') (h : K (a.put o.dst v) w') : o.wp P a w K Q := by
  unfold Oper.wp
  rw [hrun, Oper.upon_value]
  exact h
theorem k_val {v : Value} (hrun : (execOp a.eval o).run P w = .ok (.value v) w) (h : K (a.put o.dst v) w) : o.wp P a w K Q := k_run hrun h
end
theorem k_ld {o : Oper} {a : Act} {w : World} {K : Act → World → Prop} {Q : Exit → Act → World → Prop} {l : List (Nat × Opt)} (H : Held w l) (x : Operand) (ho : o.op = .load 60 x) (B : Nat) (c : Opt) (hm : (B, c) ∈ l) (hx : a.eval x = .pointer (some ⟨B, 0, none⟩)) (h : K (a.put o.dst (.agg c.cells)) w) : o.wp Try.prog a w K Q :=
  wp_load_row 60 x ho B hx 60 _ (0, 0) _ (H _ hm).1 Try.underlying60 rfl (by rw [Opt.size]; kernel_rfl) h
theorem k_eq {o : Oper} {a : Act} {w : World} {K : Act → World → Prop} {Q : Exit → Act → World → Prop} {l : List (Nat × Opt)} (H : Held w l) (c c' : Opt) (hm : c ∈ l.map (·.2)) (hm' : c' ∈ l.map (·.2)) (b : Bool) (hs : (b = true) ↔ c.Same c')
    (hrun : (execOp a.eval o).run Try.prog w = .ok (.enter 9 #[.agg c.cells, .agg c'.cells]) w) (h : ∀ w', Below w.heap.size w w' → Held w' l → K (a.put o.dst (.bool b)) w') : o.wp Try.prog a w K Q :=
  k_call hrun (R := fun v w' => v = .bool b ∧ Below w.heap.size w w') ((eq9 w c c' b hs (H.ok hm) (H.ok hm')).mono fun e w' ⟨he, hb⟩ => ⟨_, he, rfl, hb⟩) fun v w' ⟨hv, hb⟩ => by subst hv; exact h w' hb (H.below hb)
end Go.Proofs.Ytbebfpmnekbldaa.op
