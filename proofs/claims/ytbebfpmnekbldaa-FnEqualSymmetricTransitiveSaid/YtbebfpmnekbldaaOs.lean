/-
  Options: a config as a structure.
-/
import Derived.Test.YtbebfpmnekbldaaOq

namespace Go.Proofs.Ytbebfpmnekbldaa.op
open Go.ChangeShapes Go.WideShapes Go.ChangeAt Go.RowKit Go.Deep
set_option linter.unusedVariables false
set_option linter.unusedSimpArgs false
set_option maxRecDepth 100000
set_option maxHeartbeats 1000000
structure Cfg where
  n : Int
  env : ByteArray
  f : Int
  g : Int
  h : Int
  mn : Bool
  rn : Bool
  la : Option Addr
  ln : Nat
  lc : Nat
  V : Nat → ByteArray
def Cfg.arr (c : Cfg) : Array Value := #[.int .u16 c.n, .string c.env, .int .u64 c.f, .int .u64 c.g, .int .u64 c.h, .bool c.mn, .bool c.rn, .slice c.la c.ln c.lc]
theorem Cfg.size (c : Cfg) : c.arr.size = 8 := rfl
def Cfg.ok (c : Cfg) (w : World) : Prop := (0 ≤ c.n ∧ c.n < 65536) ∧ IsStrs w c.la c.ln c.lc c.V
theorem Cfg.ok.below {c : Cfg} {w w' : World} (h : c.ok w) (hb : Below w.heap.size w w') : c.ok w' := ⟨h.1, h.2.below hb⟩
/-- c with other labels (a clone), same text. -/
def Cfg.like (c d : Cfg) : Prop := d.n = c.n ∧ d.env = c.env ∧ d.f = c.f ∧ d.g = c.g ∧ d.h = c.h ∧ d.mn = c.mn ∧ d.rn = c.rn ∧ d.ln = c.ln ∧ d.V = c.V
theorem count11c (w : World) (c : Cfg) (hc : c.ok w) : Calls Try.prog 11 #[.agg c.arr] w (CntP w c.ln) := count11 w c.n c.env c.f c.g c.h c.mn c.rn c.la c.ln c.lc c.V hc.2
theorem clone12c (w : World) (c : Cfg) (hc : c.ok w) (hl : c.ln ≤ 1048576) : Calls Try.prog 12 #[.agg c.arr] w fun e w' => ∃ d : Cfg, e = .returned (.agg d.arr) ∧ c.like d ∧ d.ok w' ∧ Below w.heap.size w w' ∧ ∀ x, d.la = some x → w.heap.size ≤ x.block := by
  refine (clone12 w c.n c.env c.f c.g c.h c.mn c.rn c.la c.ln c.lc c.V hl hc.2.2.2.1 hc.2.1).mono ?_
  rintro e w' ⟨la, lc, he, hr, hnil, hb, hnew⟩
  exact ⟨⟨c.n, c.env, c.f, c.g, c.h, c.mn, c.rn, la, c.ln, lc, c.V⟩, he, ⟨rfl, rfl, rfl, rfl, rfl, rfl, rfl, rfl, rfl⟩, ⟨hc.1, hnil, hc.2.2.1, hr, hc.2.2.2.2⟩, hb, hnew⟩
/-- The Options value built from c. -/
def Cfg.of (c : Cfg) (o : Opt) : Prop := o.m.isNone = c.mn ∧ o.r.isNone = c.rn ∧ o.y = false ∧ o.ln = c.ln ∧ o.V = c.V ∧ o.env = c.env ∧ o.f = c.f ∧ o.g = c.g ∧ o.h = c.h ∧ o.b = bitB c.n
theorem build8c (w : World) (c : Cfg) (hc : c.ok w) (hl : c.ln ≤ 1048576) : Calls Try.prog 8 #[.agg c.arr] w fun e w' => ∃ o : Opt, e = .returned (.agg o.cells) ∧ c.of o ∧ o.ok w' ∧ Below w.heap.size w w' := by
  refine (build8o w c.n c.env c.f c.g c.h c.mn c.rn c.la c.ln c.lc c.V hc.1 hl hc.2.2.2.1 hc.2.1).mono ?_
  rintro e w' ⟨o, he, ok, hm, hr, hy, hl, hV, hen, hf, hg, hh, hbb, hb⟩
  exact ⟨o, he, ⟨hm, hr, hy, hl, hV, hen, hf, hg, hh, hbb⟩, ok, hb⟩
def Held2 (w : World) (l : List (Nat × Cfg)) : Prop := ∀ p ∈ l, w.heap[p.1]? = some (.cells p.2.arr 65 (0, 0)) ∧ p.2.ok w
theorem Held2.below {w w' : World} {l : List (Nat × Cfg)} (h : Held2 w l) (hb : Below w.heap.size w w') : Held2 w' l := fun p hp => ⟨(hb.block _ (lt_of_block (h p hp).1)).trans (h p hp).1, (h p hp).2.below hb⟩
theorem Held2.add {w : World} {l : List (Nat × Cfg)} (h : Held2 w l) (c : Cfg) (hc : c.ok w) : Held2 (w.alloc (.cells c.arr 65)) ((w.heap.size, c) :: l) := by
  have hb : Below w.heap.size w (w.alloc (.cells c.arr 65)) := (Below.refl _ _).alloc (Nat.le_refl _) _
  intro p hp
  rcases List.mem_cons.1 hp with rfl | hp
  · exact ⟨heap_alloc_new _ _, hc.below hb⟩
  · exact h.below hb p hp
/-- The labels of a config do not lie in block A. -/
def Cfg.off (c : Cfg) (A : Nat) : Prop := 0 < c.ln → ∀ x, c.la = some x → x.block ≠ A
theorem Cfg.ok.off_new {c : Cfg} {w : World} (h : c.ok w) : c.off w.heap.size := fun h0 x hx => by
  obtain ⟨b, off, e, hc⟩ := h.2.2.2.1 h0
  rw [hx] at e
  cases e
  have hlt : b < w.heap.size := block_lt_of_cell (a := ⟨b, off + 0, none⟩) (hc 0 h0)
  show b ≠ _
  omega
theorem Cfg.off_old {c : Cfg} {w : World} {A : Nat} (hn : ∀ x, c.la = some x → w.heap.size ≤ x.block) (hA : A < w.heap.size) : c.off A := fun _ x hx => by have := hn x hx; omega
theorem Cfg.ok.setRow {c : Cfg} {w : World} {A : Nat} {cs : Array Value} (h : c.ok w) (ho : c.off A) : c.ok (w.setRow A cs) := ⟨h.1, h.2.1, h.2.2.1, fun h0 => RowsetRow h.2.2.2.1 (ho h0) h0, h.2.2.2.2⟩
theorem Cfg.ok.setCell {c : Cfg} {w : World} {a : Addr} {v : Value} (h : c.ok w) (ho : c.off a.block) : c.ok (w.setCell a v) := ⟨h.1, h.2.1, h.2.2.1, fun h0 => Rowput h.2.2.2.1 (ho h0) h0, h.2.2.2.2⟩
/-- Block A is overwritten by config d: the others stay. -/
theorem Held2.put {w : World} {A : Nat} {c d : Cfg} {l : List (Nat × Cfg)} (h : Held2 w ((A, c) :: l)) (hd : d.ok w) (hoff : d.off A) (hl : ∀ p ∈ l, p.1 ≠ A ∧ p.2.off A) : Held2 (w.setRow A d.arr) ((A, d) :: l) := by
  intro p hp
  rcases List.mem_cons.1 hp with rfl | hp
  · exact ⟨setRow_heap _ _ _ _ _ _ (h (A, c) (List.mem_cons_self ..)).1, hd.setRow hoff⟩
  · exact ⟨(setRow_other _ _ _ _ (hl p hp).1).trans (h p (List.mem_cons_of_mem _ hp)).1, (h p (List.mem_cons_of_mem _ hp)).2.setRow (hl p hp).2⟩
/-- The two nil-ness fields of the config in block A are set. -/
theorem Held2.set2 {w : World} {A : Nat} {c : Cfg} {l : List (Nat × Cfg)} (m r : Bool) (h : Held2 w ((A, c) :: l)) (hoff : c.off A) (hl : ∀ p ∈ l, p.1 ≠ A ∧ p.2.off A) :
    Held2 ((w.setCell ⟨A, 5, none⟩ (.bool m)).setCell ⟨A, 6, none⟩ (.bool r)) ((A, { c with mn := m, rn := r }) :: l) := by
  intro p hp
  rcases List.mem_cons.1 hp with rfl | hp
  · have h0 := h (A, c) (List.mem_cons_self ..)
    refine ⟨?_, (h0.2.setCell (a := ⟨A, 5, none⟩) (v := .bool m) hoff).setCell (a := ⟨A, 6, none⟩) (v := .bool r) hoff⟩
    exact heap_setCell_same _ A 6 _ 65 _ (heap_setCell_same w A 5 _ 65 _ h0.1)
  · have h0 := h p (List.mem_cons_of_mem _ hp)
    exact ⟨(Below.heap_setCell _ _ _ _ (hl p hp).1).trans ((Below.heap_setCell _ _ _ _ (hl p hp).1).trans h0.1), (h0.2.setCell (a := ⟨A, 5, none⟩) (v := .bool m) (hl p hp).2).setCell (a := ⟨A, 6, none⟩) (v := .bool r) (hl p hp).2⟩
theorem same_of {c d : Cfg} {o p : Opt} (hn : d.n = c.n) (he : d.env = c.env) (hf : d.f = c.f) (hg : d.g = c.g) (hh : d.h = c.h) (hl : d.ln = c.ln) (hV : d.V = c.V) (ho : c.of o) (hp : d.of p) : o.Same p ↔ (c.mn = d.mn ∧ c.rn = d.rn) := by
  obtain ⟨a1, a2, a3, a4, a5, a6, a7, a8, a9, a10⟩ := ho
  obtain ⟨b1, b2, b3, b4, b5, b6, b7, b8, b9, b10⟩ := hp
  unfold Opt.Same
  rw [a1, a2, a3, a4, a5, a6, a7, a8, a9, a10, b1, b2, b3, b4, b5, b6, b7, b8, b9, b10, hn, he, hf, hg, hh, hl, hV]
  constructor
  · intro h; exact ⟨h.2.2.2.2.2.2.1, h.2.2.2.2.2.2.2.1⟩
  · intro h; exact ⟨rfl, rfl, rfl, rfl, fun _ _ => rfl, rfl, h.1, h.2, rfl, fun _ _ => rfl⟩

theorem bytes13 (w : World) (n : Int) (env : ByteArray) (f g h : Int) (mn rn : Bool) (la : Option Addr) (ln lc : Nat) (V : Nat → ByteArray) (m1 m2 r1 r2 : Bool) (hs : IsStrs w la ln lc V) :
    Calls Try.prog 13 #[.agg #[.int .u16 n, .string env, .int .u64 f, .int .u64 g, .int .u64 h, .bool mn, .bool rn, .slice la ln lc], .bool m1, .bool m2, .bool r1, .bool r2] w (SomeB w) := by
  have HC : Hid (Row w la ln fun i => .string (V i)) := Lib.hid hs.2.2.1
  have hm := hs.2.1
  have HW : Hid (Below w.heap.size w (w.alloc (.cells #[.int .u16 n, .string env, .int .u64 f, .int .u64 g, .int .u64 h, .bool mn, .bool rn, .slice la ln lc] 65))) := Lib.hid ((Below.refl _ _).alloc (Nat.le_refl _) _)
  clear hs
  unfold maxLen at hm
  by_cases g1 : ln ≤ 1048576
  rotate_left
  · go_enter Try.func13, Try.ntmps13
    go_wp2
    all_goals (go_ret; exact ⟨⟨_, rfl⟩, HW.out⟩)
  go_enter Try.func13, Try.ntmps13
  go_wp2
  · go_ret; exact ⟨⟨_, rfl⟩, HW.out⟩
  · go_ret; exact ⟨⟨_, rfl⟩, HW.out⟩
  go_loopw [11, 12] (fun nn ii wr => ∃ (k : Nat) (c : Int), k ≤ ln ∧ ii = .int .i64 k ∧ nn = .int .i64 c ∧ w.alloc (.cells #[.int .u16 n, .string env, .int .u64 f, .int .u64 g, .int .u64 h, .bool mn, .bool rn, .slice la ln lc] 65) = wr) (fun n i _ => ln - (intOf i).toNat)
  case atStart => exact ⟨0, _, by omega, rfl, rfl, rfl⟩
  case round =>
    obtain ⟨k, c, hk, rfl, rfl, rfl⟩ := hrel
    by_cases hlt : k < ln
    · obtain ⟨b, off, rfl, hcell⟩ := HC.out (by omega)
      have c1 := hcell k hlt
      have hbl : b < w.heap.size := block_lt_of_cell c1
      clear hcell
      go_wp2
      · go_ret
        exact ⟨⟨_, rfl⟩, HW.out⟩
      · go_ret
        exact ⟨⟨_, rfl⟩, HW.out⟩
      · go_roundw
        case rel => exact ⟨k + 1, _, by omega, by go_num, rfl, trivial⟩
        case measure => simp [intOf]; omega
    · obtain rfl : k = ln := by omega
      go_wp2
      go_ret
      exact ⟨⟨_, rfl⟩, HW.out⟩

theorem bytes13c (w : World) (c : Cfg) (hc : c.ok w) (m1 m2 r1 r2 : Bool) : Calls Try.prog 13 #[.agg c.arr, .bool m1, .bool m2, .bool r1, .bool r2] w (SomeB w) := bytes13 w c.n c.env c.f c.g c.h c.mn c.rn c.la c.ln c.lc c.V m1 m2 r1 r2 hc.2
theorem same21 (w : World) (p q : Option Addr) (hp : Rx w p) (hq : Rx w q) : Calls Try.prog 21 #[.pointer p, .pointer q] w fun e w' => e = .returned (.bool (p.isNone == q.isNone)) ∧ w = w' := by
  have h22 := Lib.hid (same22 w p q hp hq)
  clear hp hq
  go_enter Try.func21, Try.ntmps21
  go_wp2_with (go_at_call 22; refine h22.out.mono ?_; rintro e w2 ⟨rfl, rfl⟩)
  go_ret
  exact ⟨rfl, rfl⟩
theorem regexp18r (w : World) : Calls Try.prog 18 #[] w fun e w' => ∃ b, e = .returned (.pointer (some ⟨b, 0, none⟩)) ∧ Rx w' (some ⟨b, 0, none⟩) ∧ Below w.heap.size w w' := by
  refine (regexp18 w).mono ?_
  rintro e w' ⟨he, cs, hcs, rfl⟩
  exact ⟨_, he, .inr ⟨_, rfl, (cell_of_row _ _ 0 _ _ _ (heap_alloc_new w _)).trans hcs⟩, (Below.refl _ _).alloc (Nat.le_refl _) _⟩
theorem same14 (w : World) (a b : Bool) : Calls Try.prog 14 #[.bool a, .bool b] w fun e w' => e = .returned (.bool (a == b)) ∧ Below w.heap.size w w' := by
  have BB : Below w.heap.size w w := Below.refl _ _
  have RN : ∀ w', Rx w' none := fun _ => .inl rfl
  cases a <;> cases b
  · go_enter Try.func14, Try.ntmps14
    go_wp2_with (first | (go_at_call 18; refine (regexp18r _).mono ?_; first | (rintro e w1 ⟨b2, rfl, h2, hb1⟩; replace h1 := h1.below hb1; replace BB := BB.trans (hb1.mono BB.size); clear hb1) | (rintro e w1 ⟨b1, rfl, h1, hb1⟩; replace BB := BB.trans (hb1.mono BB.size); clear hb1)) | (go_at_call 21; refine (same21 _ _ _ h1 h2).mono ?_; rintro e w2 ⟨rfl, rfl⟩))
    go_ret
    exact ⟨rfl, BB⟩
  · go_enter Try.func14, Try.ntmps14
    go_wp2_with (first | (go_at_call 18; refine (regexp18r _).mono ?_; rintro e w1 ⟨b1, rfl, h1, hb1⟩; replace BB := BB.trans (hb1.mono BB.size); clear hb1) | (go_at_call 21; refine (same21 _ _ _ h1 (RN _)).mono ?_; rintro e w2 ⟨rfl, rfl⟩))
    go_ret
    exact ⟨rfl, BB⟩
  · go_enter Try.func14, Try.ntmps14
    go_wp2_with (first | (go_at_call 18; refine (regexp18r _).mono ?_; rintro e w1 ⟨b1, rfl, h1, hb1⟩; replace BB := BB.trans (hb1.mono BB.size); clear hb1) | (go_at_call 21; refine (same21 _ _ _ (RN _) h1).mono ?_; rintro e w2 ⟨rfl, rfl⟩))
    go_ret
    exact ⟨rfl, BB⟩
  · go_enter Try.func14, Try.ntmps14
    go_wp2_with (go_at_call 21; refine (same21 _ _ _ (RN _) (RN _)).mono ?_; rintro e w2 ⟨rfl, rfl⟩)
    go_ret
    exact ⟨rfl, BB⟩
end Go.Proofs.Ytbebfpmnekbldaa.op
