/-
  Options: zzBuild.
-/
import Derived.Test.YtbebfpmnekbldaaOm
import Derived.Laws.CopyOwn
import Derived.Deep.RegionHeld

namespace Go.Proofs.Ytbebfpmnekbldaa.op
open Go.ChangeShapes Go.WideShapes Go.ChangeAt Go.RowKit Go.Deep
set_option linter.unusedVariables false
set_option linter.unusedSimpArgs false
set_option maxRecDepth 100000
set_option maxHeartbeats 1000000
theorem good8 (w : World) (B : Nat) (n : Int) (env : ByteArray) (f g h : Int) (mn rn : Bool) (la : Option Addr) (ln lc : Nat) (V : Nat → ByteArray) : ∀ i, i < 47 → Good8 w B n env f g h mn rn la ln lc V i
  | 0, _ => g8_0 w B n env f g h mn rn la ln lc V
  | 1, _ => g8_1 w B n env f g h mn rn la ln lc V
  | 2, _ => g8_2 w B n env f g h mn rn la ln lc V
  | 3, _ => g8_3 w B n env f g h mn rn la ln lc V
  | 4, _ => g8_4 w B n env f g h mn rn la ln lc V
  | 5, _ => g8_5 w B n env f g h mn rn la ln lc V
  | 6, _ => g8_6 w B n env f g h mn rn la ln lc V
  | 7, _ => g8_7 w B n env f g h mn rn la ln lc V
  | 8, _ => g8_8 w B n env f g h mn rn la ln lc V
  | 9, _ => g8_9 w B n env f g h mn rn la ln lc V
  | 10, _ => g8_10 w B n env f g h mn rn la ln lc V
  | 11, _ => g8_11 w B n env f g h mn rn la ln lc V
  | 12, _ => g8_12 w B n env f g h mn rn la ln lc V
  | 13, _ => g8_13 w B n env f g h mn rn la ln lc V
  | 14, _ => g8_14 w B n env f g h mn rn la ln lc V
  | 15, _ => g8_15 w B n env f g h mn rn la ln lc V
  | 16, _ => g8_16 w B n env f g h mn rn la ln lc V
  | 17, _ => g8_17 w B n env f g h mn rn la ln lc V
  | 18, _ => g8_18 w B n env f g h mn rn la ln lc V
  | 19, _ => g8_19 w B n env f g h mn rn la ln lc V
  | 20, _ => g8_20 w B n env f g h mn rn la ln lc V
  | 21, _ => g8_21 w B n env f g h mn rn la ln lc V
  | 22, _ => g8_22 w B n env f g h mn rn la ln lc V
  | 23, _ => g8_23 w B n env f g h mn rn la ln lc V
  | 24, _ => g8_24 w B n env f g h mn rn la ln lc V
  | 25, _ => g8_25 w B n env f g h mn rn la ln lc V
  | 26, _ => g8_26 w B n env f g h mn rn la ln lc V
  | 27, _ => g8_27 w B n env f g h mn rn la ln lc V
  | 28, _ => g8_28 w B n env f g h mn rn la ln lc V
  | 29, _ => g8_29 w B n env f g h mn rn la ln lc V
  | 30, _ => g8_30 w B n env f g h mn rn la ln lc V
  | 31, _ => g8_31 w B n env f g h mn rn la ln lc V
  | 32, _ => g8_32 w B n env f g h mn rn la ln lc V
  | 33, _ => g8_33 w B n env f g h mn rn la ln lc V
  | 34, _ => g8_34 w B n env f g h mn rn la ln lc V
  | 35, _ => g8_35 w B n env f g h mn rn la ln lc V
  | 36, _ => g8_36 w B n env f g h mn rn la ln lc V
  | 37, _ => g8_37 w B n env f g h mn rn la ln lc V
  | 38, _ => g8_38 w B n env f g h mn rn la ln lc V
  | 39, _ => g8_39 w B n env f g h mn rn la ln lc V
  | 40, _ => g8_40 w B n env f g h mn rn la ln lc V
  | 41, _ => g8_41 w B n env f g h mn rn la ln lc V
  | 42, _ => g8_42 w B n env f g h mn rn la ln lc V
  | 43, _ => g8_43 w B n env f g h mn rn la ln lc V
  | 44, _ => g8_44 w B n env f g h mn rn la ln lc V
  | 45, _ => g8_45 w B n env f g h mn rn la ln lc V
  | 46, _ => g8_46 w B n env f g h mn rn la ln lc V
  | i + 47, h => absurd h (by omega)
theorem region8 {id : Nat} {w : World} {Q : Exit → Act → World → Prop} (B R : Nat) (n : Int) (env : ByteArray) (f g h : Int) (mn rn : Bool) (la : Option Addr) (ln lc : Nat) (V : Nat → ByteArray) (hn : 0 ≤ n ∧ n < 65536) (hl : ln ≤ 1048576) (hr : Row w la ln (fun i => .string (V i))) (hnil : la = none → ln = 0 ∧ lc = 0)
    (hB : w.heap[B]? = some (.cells #[.int .u16 n, .string env, .int .u64 f, .int .u64 g, .int .u64 h, .bool mn, .bool rn, .slice la ln lc] 65 (0, 0)))
    (hQ : ∀ (t : Th) (w' : World), Below w.heap.size w w' → w.heap.size ≤ t.g → w'.heap[t.g]? = some (.cells (cv (bitB n 0) (bitB n 1) (bitB n 2) (bitB n 3) (bitB n 4) (bitB n 5) (bitB n 6) (bitB n 7) (bitB n 8) (bitB n 9) (bitB n 10) env f g h t.la ln t.lc) 97 (0, 0)) → Row w' t.la ln (fun i => .string (V i)) →
      (∀ x, t.la = some x → w.heap.size ≤ x.block ∧ x.block ≠ t.g) → Q .normal ⟨#[.agg #[.int .u16 n, .string env, .int .u64 f, .int .u64 g, .int .u64 h, .bool mn, .bool rn, .slice la ln lc], .pointer (some ⟨B, 0, none⟩), .pointer (some ⟨R, 0, none⟩), .pointer (some ⟨t.g, 0, none⟩), .pointer (some ⟨B, 0, none⟩), .int .u16 n, .bool (bitB n 0), .pointer (some ⟨B, 0, none⟩), .int .u16 n, .bool (bitB n 1), .pointer (some ⟨B, 0, none⟩), .int .u16 n, .bool (bitB n 2), .pointer (some ⟨B, 0, none⟩), .int .u16 n, .bool (bitB n 3), .pointer (some ⟨B, 0, none⟩), .int .u16 n, .bool (bitB n 4), .pointer (some ⟨B, 0, none⟩), .int .u16 n, .bool (bitB n 5), .pointer (some ⟨B, 0, none⟩), .int .u16 n, .bool (bitB n 6), .pointer (some ⟨B, 0, none⟩), .int .u16 n, .bool (bitB n 7), .pointer (some ⟨B, 0, none⟩), .int .u16 n, .bool (bitB n 8), .pointer (some ⟨B, 0, none⟩), .int .u16 n, .bool (bitB n 9), .pointer (some ⟨B, 0, none⟩), .int .u16 n, .bool (bitB n 10), .pointer (some ⟨B, 1, none⟩), .string env, .pointer (some ⟨B, 2, none⟩), .int .u64 f, .pointer (some ⟨B, 3, none⟩), .int .u64 g, .pointer (some ⟨B, 4, none⟩), .int .u64 h, .pointer (some ⟨B, 7, none⟩), .slice la ln lc, .slice t.la ln t.lc, .agg (cv (bitB n 0) (bitB n 1) (bitB n 2) (bitB n 3) (bitB n 4) (bitB n 5) (bitB n 6) (bitB n 7) (bitB n 8) (bitB n 9) (bitB n 10) env f g h t.la ln t.lc), undef, undef, undef, undef, undef, undef, undef, undef, undef, undef, undef], []⟩ w') :
    (Code.region id ops8 true).wp Try.prog Q ⟨#[.agg #[.int .u16 n, .string env, .int .u64 f, .int .u64 g, .int .u64 h, .bool mn, .bool rn, .slice la ln lc], .pointer (some ⟨B, 0, none⟩), .pointer (some ⟨R, 0, none⟩), undef, undef, undef, undef, undef, undef, undef, undef, undef, undef, undef, undef, undef, undef, undef, undef, undef, undef, undef, undef, undef, undef, undef, undef, undef, undef, undef, undef, undef, undef, undef, undef, undef, undef, undef, undef, undef, undef, undef, undef, undef, undef, undef, undef, undef, undef, undef, undef, undef, undef, undef, undef, undef, undef, undef, undef, undef], []⟩ w := by
  refine wp_region_sl (Θ := Th) (by kernel_rfl) (fun t => V8 B t n env f g h mn rn la ln lc) (fun t => W8 w B n env f g h mn rn la ln lc V t) (by kernel_rfl) (by kernel_rfl) ⟨none, 0, 0⟩ ?_ ?_ ?_
  · have hf : ∀ j, (Array.replicate ops8.size false).getD j false = false := fun j => by
      rw [Array.getD_eq_getD_getElem?, Array.getElem?_replicate]
      split <;> rfl
    refine ⟨hB, (Below.refl _ _).drew, ?_, ?_, ?_, ?_⟩ <;> (intro hx; rw [hf] at hx; cases hx)
  · intro i o t L a w' ho hL hu hall hS hW
    exact good8 w B n env f g h mn rn la ln lc V i (by rw [← size8]; exact (Array.getElem?_eq_some_iff.1 ho).1) o t L a _ w' Q hn hl hr hnil (lt_of_block hB) ho hL hu hall rfl hS hW
  · intro t L a w' hall hS hW
    have h45 := hall 45 (by rw [size8]; omega)
    have h43 := hall 43 (by rw [size8]; omega)
    have h46 := hall 46 (by rw [size8]; omega)
    obtain ⟨k1, k2, k3⟩ := hW.2.2.2.2.1 h45
    rw [h46, if_pos rfl] at k2
    have k4 := hW.2.2.1 h43
    have hfin := hS.final (by kernel_rfl) hall
    have he : finAct ops8 (V8 B t n env f g h mn rn la ln lc) ⟨#[.agg #[.int .u16 n, .string env, .int .u64 f, .int .u64 g, .int .u64 h, .bool mn, .bool rn, .slice la ln lc], .pointer (some ⟨B, 0, none⟩), .pointer (some ⟨R, 0, none⟩), undef, undef, undef, undef, undef, undef, undef, undef, undef, undef, undef, undef, undef, undef, undef, undef, undef, undef, undef, undef, undef, undef, undef, undef, undef, undef, undef, undef, undef, undef, undef, undef, undef, undef, undef, undef, undef, undef, undef, undef, undef, undef, undef, undef, undef, undef, undef, undef, undef, undef, undef, undef, undef, undef, undef, undef, undef], []⟩ ops8.size = ⟨#[.agg #[.int .u16 n, .string env, .int .u64 f, .int .u64 g, .int .u64 h, .bool mn, .bool rn, .slice la ln lc], .pointer (some ⟨B, 0, none⟩), .pointer (some ⟨R, 0, none⟩), .pointer (some ⟨t.g, 0, none⟩), .pointer (some ⟨B, 0, none⟩), .int .u16 n, .bool (bitB n 0), .pointer (some ⟨B, 0, none⟩), .int .u16 n, .bool (bitB n 1), .pointer (some ⟨B, 0, none⟩), .int .u16 n, .bool (bitB n 2), .pointer (some ⟨B, 0, none⟩), .int .u16 n, .bool (bitB n 3), .pointer (some ⟨B, 0, none⟩), .int .u16 n, .bool (bitB n 4), .pointer (some ⟨B, 0, none⟩), .int .u16 n, .bool (bitB n 5), .pointer (some ⟨B, 0, none⟩), .int .u16 n, .bool (bitB n 6), .pointer (some ⟨B, 0, none⟩), .int .u16 n, .bool (bitB n 7), .pointer (some ⟨B, 0, none⟩), .int .u16 n, .bool (bitB n 8), .pointer (some ⟨B, 0, none⟩), .int .u16 n, .bool (bitB n 9), .pointer (some ⟨B, 0, none⟩), .int .u16 n, .bool (bitB n 10), .pointer (some ⟨B, 1, none⟩), .string env, .pointer (some ⟨B, 2, none⟩), .int .u64 f, .pointer (some ⟨B, 3, none⟩), .int .u64 g, .pointer (some ⟨B, 4, none⟩), .int .u64 h, .pointer (some ⟨B, 7, none⟩), .slice la ln lc, .slice t.la ln t.lc, .agg (cv (bitB n 0) (bitB n 1) (bitB n 2) (bitB n 3) (bitB n 4) (bitB n 5) (bitB n 6) (bitB n 7) (bitB n 8) (bitB n 9) (bitB n 10) env f g h t.la ln t.lc), undef, undef, undef, undef, undef, undef, undef, undef, undef, undef, undef], []⟩ := by kernel_rfl
    rw [he] at hfin
    rw [hfin]
    exact hQ t w' hW.2.1 k1 k2 k4.1 fun x hx => ⟨(k4.2 x hx).1, k3 h43 x hx⟩
/-- The state beside the two regexps: the config lies in block tg. -/
def St (w1 : World) (n : Int) (env : ByteArray) (f g h : Int) (ln : Nat) (tl : Option Addr) (tc tg : Nat) (V : Nat → ByteArray) (w : World) (m r : Option Addr) : Prop :=
  Below w1.heap.size w1 w ∧ w1.heap.size ≤ tg ∧ w.heap[tg]? = some (.cells (cw (bitB n 0) (bitB n 1) (bitB n 2) (bitB n 3) (bitB n 4) (bitB n 5) (bitB n 6) (bitB n 7) (bitB n 8) (bitB n 9) (bitB n 10) env f g h tl ln tc m r) 97 (0, 0)) ∧ Row w tl ln (fun i => .string (V i)) ∧ (∀ x, tl = some x → w1.heap.size ≤ x.block ∧ x.block ≠ tg) ∧ Rx w m ∧ Rx w r ∧ (∀ x, m = some x → w1.heap.size ≤ x.block ∧ x.block ≠ tg) ∧ (∀ x, r = some x → w1.heap.size ≤ x.block ∧ x.block ≠ tg)
theorem Rx.put {w : World} {p : Option Addr} {a : Addr} {v : Value} (h : Rx w p) (hn : ∀ x, p = some x → x.block ≠ a.block) : Rx (w.setCell a v) p := by
  rcases h with h | ⟨b, h, hc⟩
  · exact .inl h
  · exact .inr ⟨b, h, (World.cell?_setCell_far _ _ _ _ (Ne.symm (hn _ h))).trans hc⟩
theorem Rowput {w : World} {p : Option Addr} {k : Nat} {X : Nat → Value} {a : Addr} {v : Value} (h : Row w p k X) (hn : ∀ x, p = some x → x.block ≠ a.block) : Row (w.setCell a v) p k X := by
  intro h0
  obtain ⟨b, off, e, hc⟩ := h h0
  exact ⟨b, off, e, fun i hi => (World.cell?_setCell_far _ _ ⟨b, off + i, none⟩ _ (Ne.symm (show b ≠ a.block from hn _ e))).trans (hc i hi)⟩
section
variable {w1 w : World} {n : Int} {env : ByteArray} {f g h : Int} {ln : Nat} {tl : Option Addr} {tc tg : Nat} {V : Nat → ByteArray} {m r : Option Addr} {cs : Array Value}
theorem St.putM (hs : St w1 n env f g h ln tl tc tg V w none r) (p : Nat) (hp : w.heap.size = p) (hc : cs[0]? = some (.string ByteArray.empty)) :
    St w1 n env f g h ln tl tc tg V ((w.setCell ⟨tg, 6, none⟩ (.pointer (some ⟨p, 0, none⟩))).alloc (.cells cs 109)) (some ⟨p, 0, none⟩) r := by
  subst hp
  obtain ⟨h1, h2, h3, h4, h5, h6, h7, h8, h9⟩ := hs
  have hb : Below w.heap.size w (w.alloc (.cells cs 109)) := (Below.refl _ _).alloc (Nat.le_refl _) _
  have hlt := lt_of_block h3
  rw [← World.setCell_alloc_past _ _ _ _ hlt]
  refine ⟨(h1.trans (hb.mono h1.size)).setCell h2 _, h2, ?_, Rowput (h4.below hb) (fun x hx => (h5 x hx).2), h5, Rx.put (.inr ⟨_, rfl, ?_⟩) (fun x hx => by cases hx; show w.heap.size ≠ tg; omega), Rx.put (h7.below hb) fun x hx => (h9 x hx).2, (fun x hx => by cases hx; exact ⟨h1.size, by show w.heap.size ≠ tg; omega⟩), h9⟩
  · rw [heap_setCell_same _ tg 6 _ 97 _ ((hb.block tg hlt).trans h3), cw_m]
  · exact (cell_of_row _ _ 0 _ _ _ (heap_alloc_new w _)).trans hc
theorem St.putR (hs : St w1 n env f g h ln tl tc tg V w m none) (p : Nat) (hp : w.heap.size = p) (hc : cs[0]? = some (.string ByteArray.empty)) :
    St w1 n env f g h ln tl tc tg V ((w.setCell ⟨tg, 7, none⟩ (.pointer (some ⟨p, 0, none⟩))).alloc (.cells cs 109)) m (some ⟨p, 0, none⟩) := by
  subst hp
  obtain ⟨h1, h2, h3, h4, h5, h6, h7, h8, h9⟩ := hs
  have hb : Below w.heap.size w (w.alloc (.cells cs 109)) := (Below.refl _ _).alloc (Nat.le_refl _) _
  have hlt := lt_of_block h3
  rw [← World.setCell_alloc_past _ _ _ _ hlt]
  refine ⟨(h1.trans (hb.mono h1.size)).setCell h2 _, h2, ?_, Rowput (h4.below hb) (fun x hx => (h5 x hx).2), h5, Rx.put (h6.below hb) fun x hx => (h8 x hx).2, Rx.put (.inr ⟨_, rfl, ?_⟩) (fun x hx => by cases hx; show w.heap.size ≠ tg; omega), h8, (fun x hx => by cases hx; exact ⟨h1.size, by show w.heap.size ≠ tg; omega⟩)⟩
  · rw [heap_setCell_same _ tg 7 _ 97 _ ((hb.block tg hlt).trans h3), cw_r]
  · exact (cell_of_row _ _ 0 _ _ _ (heap_alloc_new w _)).trans hc
end
theorem Rx.setRow {w : World} {p : Option Addr} {b : Nat} {cs : Array Value} (h : Rx w p) (hn : ∀ x, p = some x → x.block ≠ b) : Rx (w.setRow b cs) p := by
  rcases h with h | ⟨c, h, hc⟩
  · exact .inl h
  · exact .inr ⟨c, h, (cell_setRow_other _ _ _ _ (hn _ h)).trans hc⟩
theorem RowsetRow {w : World} {p : Option Addr} {k : Nat} {X : Nat → Value} {b : Nat} {cs : Array Value} (h : Row w p k X) (hn : ∀ x, p = some x → x.block ≠ b) : Row (w.setRow b cs) p k X := by
  intro h0
  obtain ⟨c, off, e, hc⟩ := h h0
  exact ⟨c, off, e, fun i hi => (cell_setRow_other _ _ _ ⟨c, off + i, none⟩ (show c ≠ b from hn _ e)).trans (hc i hi)⟩
/-- What is left of it behind OptionsFromConfig. -/
def Sf (w1 : World) (ln : Nat) (tl : Option Addr) (V : Nat → ByteArray) (w : World) (m r : Option Addr) : Prop :=
  Below w1.heap.size w1 w ∧ Row w tl ln (fun i => .string (V i)) ∧ Rx w m ∧ Rx w r ∧ (∀ x, tl = some x → w1.heap.size ≤ x.block) ∧ (∀ x, m = some x → w1.heap.size ≤ x.block) ∧ (∀ x, r = some x → w1.heap.size ≤ x.block)
theorem St.fin {w1 w w3 : World} {n : Int} {env : ByteArray} {f g h : Int} {ln : Nat} {tl : Option Addr} {tc tg : Nat} {V : Nat → ByteArray} {m r : Option Addr} (hs : St w1 n env f g h ln tl tc tg V w m r) (hb : Below w.heap.size w w3) : Sf w1 ln tl V w3 m r := by
  obtain ⟨h1, h2, h3, h4, h5, h6, h7, h8, h9⟩ := hs
  exact ⟨h1.trans (hb.mono h1.size), h4.below hb, h6.below hb, h7.below hb, fun x hx => (h5 x hx).1, fun x hx => (h8 x hx).1, fun x hx => (h9 x hx).1⟩
/-- An Options value made from a config. -/
def Bld (w : World) (n : Int) (env : ByteArray) (f g h : Int) (mn rn : Bool) (ln : Nat) (V : Nat → ByteArray) (e : Ending) (w' : World) : Prop :=
  ∃ m r la lc, e = .returned (.agg (ov m r la ln lc env f g h (bitB n 0) (bitB n 1) (bitB n 2) (bitB n 3) (bitB n 4) (bitB n 5) (bitB n 6) (bitB n 7) (bitB n 8) (bitB n 9) (bitB n 10) false)) ∧ m.isNone = mn ∧ r.isNone = rn ∧ Rx w' m ∧ Rx w' r ∧ Row w' la ln (fun i => .string (V i)) ∧ Below w.heap.size w w'
theorem Bld.mk {w w1 w3 : World} {n : Int} {env : ByteArray} {f g h : Int} {ln tc : Nat} {tl : Option Addr} {V : Nat → ByteArray} {m r : Option Addr} {e : Ending} {cs : Array Value} (hb : Below w.heap.size w w1) (hz : w1.heap.size = w.heap.size + 2) (hs : Sf w1 ln tl V w3 m r)
    (he : e = .returned (.agg (ov m r tl ln tc env f g h (bitB n 0) (bitB n 1) (bitB n 2) (bitB n 3) (bitB n 4) (bitB n 5) (bitB n 6) (bitB n 7) (bitB n 8) (bitB n 9) (bitB n 10) false))) : Bld w n env f g h m.isNone r.isNone ln V e (w3.setRow (w.heap.size + 1) cs) := by
  obtain ⟨h1, h2, h3, h4, h5, h6, h7⟩ := hs
  exact ⟨m, r, tl, tc, he, rfl, rfl, h3.setRow fun x hx => by have := h6 x hx; omega, h4.setRow fun x hx => by have := h7 x hx; omega, RowsetRow h2 fun x hx => by have := h5 x hx; omega, below_setRow (hb.trans (h1.mono (by omega))) (by omega) _⟩
set_option maxHeartbeats 4000000
theorem build8 (w : World) (n : Int) (env : ByteArray) (f g h : Int) (mn rn : Bool) (la : Option Addr) (ln lc : Nat) (V : Nat → ByteArray) (hn : 0 ≤ n ∧ n < 65536) (hl : ln ≤ 1048576) (hr : Row w la ln (fun i => .string (V i))) (hnil : la = none → ln = 0 ∧ lc = 0) :
    Calls Try.prog 8 #[.agg #[.int .u16 n, .string env, .int .u64 f, .int .u64 g, .int .u64 h, .bool mn, .bool rn, .slice la ln lc]] w (Bld w n env f g h mn rn ln V) := by
  have HR : Hid (Row ((w.alloc (.cells #[.int .u16 n, .string env, .int .u64 f, .int .u64 g, .int .u64 h, .bool mn, .bool rn, .slice la ln lc] 65)).alloc (.cells oz 60)) la ln (fun i => .string (V i))) := Lib.hid ((hr.below ((Below.refl _ _).alloc (Nat.le_refl _) _)).below ((Below.refl _ _).alloc (Nat.le_refl _) _))
  have HN := Lib.hid hn
  have HL := Lib.hid hl
  have HNIL := Lib.hid hnil
  clear hn hl hr hnil
  have HA : Hid (((w.alloc (.cells #[.int .u16 n, .string env, .int .u64 f, .int .u64 g, .int .u64 h, .bool mn, .bool rn, .slice la ln lc] 65)).alloc (.cells oz 60)).heap[w.heap.size]? = some (.cells #[.int .u16 n, .string env, .int .u64 f, .int .u64 g, .int .u64 h, .bool mn, .bool rn, .slice la ln lc] 65 (0, 0))) := Lib.hid (heap_alloc2_old ..)
  have HO : Hid (((w.alloc (.cells #[.int .u16 n, .string env, .int .u64 f, .int .u64 g, .int .u64 h, .bool mn, .bool rn, .slice la ln lc] 65)).alloc (.cells oz 60)).heap[w.heap.size + 1]? = some (.cells oz 60 (0, 0))) := Lib.hid (by have := heap_alloc_new (w.alloc (.cells #[.int .u16 n, .string env, .int .u64 f, .int .u64 g, .int .u64 h, .bool mn, .bool rn, .slice la ln lc] 65)) (.cells oz 60); simpa using this)
  have HB : Hid (Below w.heap.size w ((w.alloc (.cells #[.int .u16 n, .string env, .int .u64 f, .int .u64 g, .int .u64 h, .bool mn, .bool rn, .slice la ln lc] 65)).alloc (.cells oz 60))) := Lib.hid (((Below.refl _ _).alloc (Nat.le_refl _) _).alloc (by simp) _)
  go_enter Try.func8, Try.ntmps8
  refine wp_seq_k fun K hK => ?_
  go_wp2_with (refine Go.Great.wpList_allocTo rfl _ rfl (.pointer (some ⟨_, 0, none⟩)) (.cells oz 60) (alloc60_run _ _ rfl _) ?_)
  have hsz : ((w.alloc (.cells #[.int .u16 n, .string env, .int .u64 f, .int .u64 g, .int .u64 h, .bool mn, .bool rn, .slice la ln lc] 65)).alloc (.cells oz 60)).heap.size = w.heap.size + 2 := by simp
  have HSZ := Lib.hid hsz
  clear hsz
  generalize (w.alloc (.cells #[.int .u16 n, .string env, .int .u64 f, .int .u64 g, .int .u64 h, .bool mn, .bool rn, .slice la ln lc] 65)).alloc (.cells oz 60) = w1 at *
  simp only [Act.put, List.setIfInBounds_toArray, List.set_cons_zero, List.set_cons_succ]
  rw [show (w.alloc (.cells #[.int .u16 n, .string env, .int .u64 f, .int .u64 g, .int .u64 h, .bool mn, .bool rn, .slice la ln lc] 65)).heap.size = w.heap.size + 1 by simp]
  refine reg_use (ops := ops8) (by kernel_rfl) ?_
  refine region8 w.heap.size (w.heap.size + 1) n env f g h mn rn la ln lc V HN.out HL.out HR.out HNIL.out HA.out ?_
  intro t w2 hb hg hcell hrow hne
  obtain ⟨tl, tc, tg⟩ := t
  simp only [] at hg hcell hrow hne
  have HS : Hid (St w1 n env f g h ln tl tc tg V w2 none none) := Lib.hid ⟨hb, hg, (by rw [cw_of_cv]; exact hcell), hrow, hne, .inl rfl, .inl rfl, (fun x h => by cases h), (fun x h => by cases h)⟩
  have k5 : w2.cell? ⟨w.heap.size, 5, none⟩ = some (.bool mn) := (cell_of_row _ _ 5 _ _ _ ((hb.block _ (lt_of_block HA.out)).trans HA.out)).trans rfl
  have k6 : w2.cell? ⟨w.heap.size, 6, none⟩ = some (.bool rn) := (cell_of_row _ _ 6 _ _ _ ((hb.block _ (lt_of_block HA.out)).trans HA.out)).trans rfl
  have g6 : w2.cell? ⟨tg, 6, none⟩ = some (.pointer none) := (cell_of_row _ _ 6 _ _ _ HS.out.2.2.1).trans (cw_6 ..)
  have g7 : w2.cell? ⟨tg, 7, none⟩ = some (.pointer none) := (cell_of_row _ _ 7 _ _ _ HS.out.2.2.1).trans (cw_7 ..)
  have gf6 : w2.frozen? ⟨tg, 6, none⟩ = false := frozen_of_row _ _ 6 _ _ HS.out.2.2.1
  have gf7 : w2.frozen? ⟨tg, 7, none⟩ = false := frozen_of_row _ _ 7 _ _ HS.out.2.2.1
  have glt : tg < w2.heap.size := lt_of_block HS.out.2.2.1
  have HO2 : Hid (w2.heap[w.heap.size + 1]? = some (.cells oz 60 (0, 0))) := Lib.hid ((hb.block _ (lt_of_block HO.out)).trans HO.out)
  have HO3 : ∀ W w3, Below w1.heap.size w1 W → Below W.heap.size W w3 → w3.heap[w.heap.size + 1]? = some (.cells oz 60 (0, 0)) := fun W w3 hb1 hb3 => by
    have h1 := (hb1.block _ (lt_of_block HO.out)).trans HO.out
    exact (hb3.block _ (lt_of_block h1)).trans h1
  have gB : w.heap.size < w2.heap.size := by have := hb.size; have := HSZ.out; omega
  have gne : tg ≠ w.heap.size := by have := HSZ.out; omega
  have gne2 : Hid (tg ≠ w.heap.size + 1) := Lib.hid (by have := HSZ.out; omega)
  have gne' : w.heap.size ≠ tg := Ne.symm gne
  clear hb hg hcell hrow hne HA HO HR HN HL HNIL
  rcases mn with _ | _ <;> rcases rn with _ | _
  · go_wp2_with (go_at_call 18; refine (regexp18 _).mono ?_; rintro e wx ⟨rfl, cs, hcs, rfl⟩; first | (have h2 := HS1.out.putR (w2.heap.size + 1) (by simp) hcs; rw [World.setCell_alloc_past _ _ _ _ (by simpa using glt)] at h2; have HS2 := Lib.hid h2; clear h2) | (have HS1 := Lib.hid (HS.out.putM _ rfl hcs)))
    refine (from19 _ tg _ _ _ _ _ _ _ _ _ _ _ _ _ _ _ _ _ _ _ _ HS2.out.2.2.1).mono ?_
    rintro e w3 ⟨rfl, hb3⟩
    have HF : Hid _ := Lib.hid (HS2.out.fin hb3)
    have h3 : w3.heap[w.heap.size + 1]? = some (.cells oz 60 (0, 0)) := HO3 _ _ HS2.out.1 hb3
    clear k5 k6 g6 g7 gf6 gf7 glt gB gne gne'
    go_wp2_with (refine wpList_store_row rfl 60 _ _ rfl (w.heap.size + 1) _ rfl rfl 60 oz h3 (by rw [ov_size]; kernel_rfl) (by rw [ov_size]; kernel_rfl) (by kernel_rfl) ?_)
    exact bodyPost_ret (results_cell_row rfl _ _ (w.heap.size + 1) 60 _ (0, 0) _ rfl (setRow_heap _ _ _ _ _ _ h3) Try.underlying60 rfl (by rw [ov_size]; kernel_rfl)) rfl (Bld.mk HB.out HSZ.out HF.out rfl)
  · go_wp2_with (go_at_call 18; refine (regexp18 _).mono ?_; rintro e wx ⟨rfl, cs, hcs, rfl⟩; have HS2 := Lib.hid (HS.out.putM _ rfl hcs))
    refine (from19 _ tg _ _ _ _ _ _ _ _ _ _ _ _ _ _ _ _ _ _ _ _ HS2.out.2.2.1).mono ?_
    rintro e w3 ⟨rfl, hb3⟩
    have HF : Hid _ := Lib.hid (HS2.out.fin hb3)
    have h3 : w3.heap[w.heap.size + 1]? = some (.cells oz 60 (0, 0)) := HO3 _ _ HS2.out.1 hb3
    clear k5 k6 g6 g7 gf6 gf7 glt gB gne gne'
    go_wp2_with (refine wpList_store_row rfl 60 _ _ rfl (w.heap.size + 1) _ rfl rfl 60 oz h3 (by rw [ov_size]; kernel_rfl) (by rw [ov_size]; kernel_rfl) (by kernel_rfl) ?_)
    exact bodyPost_ret (results_cell_row rfl _ _ (w.heap.size + 1) 60 _ (0, 0) _ rfl (setRow_heap _ _ _ _ _ _ h3) Try.underlying60 rfl (by rw [ov_size]; kernel_rfl)) rfl (Bld.mk HB.out HSZ.out HF.out rfl)
  · go_wp2_with (go_at_call 18; refine (regexp18 _).mono ?_; rintro e wx ⟨rfl, cs, hcs, rfl⟩; have HS2 := Lib.hid (HS.out.putR _ rfl hcs))
    refine (from19 _ tg _ _ _ _ _ _ _ _ _ _ _ _ _ _ _ _ _ _ _ _ HS2.out.2.2.1).mono ?_
    rintro e w3 ⟨rfl, hb3⟩
    have HF : Hid _ := Lib.hid (HS2.out.fin hb3)
    have h3 : w3.heap[w.heap.size + 1]? = some (.cells oz 60 (0, 0)) := HO3 _ _ HS2.out.1 hb3
    clear k5 k6 g6 g7 gf6 gf7 glt gB gne gne'
    go_wp2_with (refine wpList_store_row rfl 60 _ _ rfl (w.heap.size + 1) _ rfl rfl 60 oz h3 (by rw [ov_size]; kernel_rfl) (by rw [ov_size]; kernel_rfl) (by kernel_rfl) ?_)
    exact bodyPost_ret (results_cell_row rfl _ _ (w.heap.size + 1) 60 _ (0, 0) _ rfl (setRow_heap _ _ _ _ _ _ h3) Try.underlying60 rfl (by rw [ov_size]; kernel_rfl)) rfl (Bld.mk HB.out HSZ.out HF.out rfl)
  · go_wp2_with (go_at_call 18; refine (regexp18 _).mono ?_; rintro e wx ⟨rfl, cs, hcs, rfl⟩; skip)
    refine (from19 _ tg _ _ _ _ _ _ _ _ _ _ _ _ _ _ _ _ _ _ _ _ HS.out.2.2.1).mono ?_
    rintro e w3 ⟨rfl, hb3⟩
    have HF : Hid _ := Lib.hid (HS.out.fin hb3)
    have h3 : w3.heap[w.heap.size + 1]? = some (.cells oz 60 (0, 0)) := HO3 _ _ HS.out.1 hb3
    clear k5 k6 g6 g7 gf6 gf7 glt gB gne gne'
    go_wp2_with (refine wpList_store_row rfl 60 _ _ rfl (w.heap.size + 1) _ rfl rfl 60 oz h3 (by rw [ov_size]; kernel_rfl) (by rw [ov_size]; kernel_rfl) (by kernel_rfl) ?_)
    exact bodyPost_ret (results_cell_row rfl _ _ (w.heap.size + 1) 60 _ (0, 0) _ rfl (setRow_heap _ _ _ _ _ _ h3) Try.underlying60 rfl (by rw [ov_size]; kernel_rfl)) rfl (Bld.mk HB.out HSZ.out HF.out rfl)
end Go.Proofs.Ytbebfpmnekbldaa.op
