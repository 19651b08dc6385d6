/-
  Options: the configs.
-/
import Derived.Test.YtbebfpmnekbldaaOo
import Derived.ChangeArms
import Derived.SliceStrings
import Derived.Deep.Fields

namespace Go.Proofs.Ytbebfpmnekbldaa.op
open Go.ChangeShapes Go.WideShapes Go.ChangeAt Go.RowKit Go.Deep
set_option linter.unusedVariables false
set_option linter.unusedSimpArgs false
/-- What a walk is told of a slice of strings that came in. -/
def IsStrs (w : World) (a : Option Addr) (len cap : Nat) (Z : Nat → ByteArray) : Prop :=
  (a = none → len = 0 ∧ cap = 0) ∧ len ≤ maxLen ∧ Row w a len (fun i => .string (Z i)) ∧ ∀ i, (Z i).size ≤ maxLen
theorem IsStrs.nil (w : World) : IsStrs w none 0 0 (fun _ => ByteArray.empty) := ⟨fun _ => ⟨rfl, rfl⟩, by unfold maxLen; omega, fun h => by omega, fun i => by simp⟩
theorem IsStrs.mk {w : World} {a : Addr} {len cap : Nat} {zs : List ByteArray} (hl : len ≤ cap) (hm : cap ≤ maxLen) (hz : zs.length = cap)
    (h : ∀ i, i < zs.length → w.cell? (a.add i) = some (.string (zs.getD i ByteArray.empty))) (hwz : ∀ s ∈ zs, s.size ≤ maxLen) : IsStrs w (some a) len cap (fun i => zs.getD i ByteArray.empty) := by
  refine ⟨by simp, by omega, Row.of_cells (V := fun i => .string (zs.getD i ByteArray.empty)) (by omega) h, fun i => ?_⟩
  show (zs.getD i ByteArray.empty).size ≤ maxLen
  rw [List.getD_eq_getElem?_getD]
  cases e : zs[i]? with
  | none => simp
  | some s => exact hwz s (List.mem_of_getElem? e)
set_option maxRecDepth 100000
set_option maxHeartbeats 1000000
theorem cfg_open {H : Type} {enc : TypeId × Value → H} {W : World} {base : Nat} {r : Reach} {b0 : Nat} {v : Value} {d : DataW H} {p : List MemPlace} (hv : Value.okWide Try.prog W r b0 65 v) (h : DataW.Trod enc Try.prog W base (fun _ => true) true 65 v d p) :
    ∃ (n : Int) (env : ByteArray) (f g h : Int) (mn rn : Bool) (la : Option Addr) (ln lc : Nat) (V : Nat → ByteArray), v = .agg #[.int .u16 n, .string env, .int .u64 f, .int .u64 g, .int .u64 h, .bool mn, .bool rn, .slice la ln lc] ∧ (Lit.int .u16 n).wf = true ∧ IsStrs W la ln lc V := by
  obtain ⟨cs, rfl, hsz⟩ := okWide_struct Try.underlying65 hv
  obtain ⟨l⟩ := cs
  have hC : Try.prog.cellsOf 65 = 8 := by kernel_rfl
  match l, hsz.trans hC with
  | [v0, v1, v2, v3, v4, v5, v6, v7], _ =>
    obtain ⟨fuel, hf⟩ := h
    obtain ⟨xs, m, _, _, _, hlen, hg⟩ := DataW.trod_struct Try.underlying65 hf
    have hx : ∀ (i : Nat), i < 8 → ∃ y, xs[i]? = some y := fun i hi => ⟨xs[i]'(by rw [hlen]; exact hi), List.getElem?_eq_getElem _⟩
    have e0 : ∃ y, DataW.trod enc Try.prog W base (fun _ => true) true m 63 [v0] = some y := by
      obtain ⟨y, hy⟩ := hx 0 (by omega)
      refine ⟨y, ?_⟩
      rw [← hy]
      exact hg 0 _ rfl
    obtain ⟨y0, e0⟩ := e0
    have e1 : ∃ y, DataW.trod enc Try.prog W base (fun _ => true) true m 9 [v1] = some y := by
      obtain ⟨y, hy⟩ := hx 1 (by omega)
      refine ⟨y, ?_⟩
      rw [← hy]
      exact hg 1 _ rfl
    obtain ⟨y1, e1⟩ := e1
    have e2 : ∃ y, DataW.trod enc Try.prog W base (fun _ => true) true m 44 [v2] = some y := by
      obtain ⟨y, hy⟩ := hx 2 (by omega)
      refine ⟨y, ?_⟩
      rw [← hy]
      exact hg 2 _ rfl
    obtain ⟨y2, e2⟩ := e2
    have e3 : ∃ y, DataW.trod enc Try.prog W base (fun _ => true) true m 44 [v3] = some y := by
      obtain ⟨y, hy⟩ := hx 3 (by omega)
      refine ⟨y, ?_⟩
      rw [← hy]
      exact hg 3 _ rfl
    obtain ⟨y3, e3⟩ := e3
    have e4 : ∃ y, DataW.trod enc Try.prog W base (fun _ => true) true m 44 [v4] = some y := by
      obtain ⟨y, hy⟩ := hx 4 (by omega)
      refine ⟨y, ?_⟩
      rw [← hy]
      exact hg 4 _ rfl
    obtain ⟨y4, e4⟩ := e4
    have e5 : ∃ y, DataW.trod enc Try.prog W base (fun _ => true) true m 4 [v5] = some y := by
      obtain ⟨y, hy⟩ := hx 5 (by omega)
      refine ⟨y, ?_⟩
      rw [← hy]
      exact hg 5 _ rfl
    obtain ⟨y5, e5⟩ := e5
    have e6 : ∃ y, DataW.trod enc Try.prog W base (fun _ => true) true m 4 [v6] = some y := by
      obtain ⟨y, hy⟩ := hx 6 (by omega)
      refine ⟨y, ?_⟩
      rw [← hy]
      exact hg 6 _ rfl
    obtain ⟨y6, e6⟩ := e6
    have e7 : ∃ y, DataW.trod enc Try.prog W base (fun _ => true) true m 25 [v7] = some y := by
      obtain ⟨y, hy⟩ := hx 7 (by omega)
      refine ⟨y, ?_⟩
      rw [← hy]
      exact hg 7 _ rfl
    obtain ⟨y7, e7⟩ := e7
    obtain ⟨n, h0, _, w0⟩ := DataW.trod_int Try.underlying63 e0
    obtain rfl : v0 = .int .u16 n := by simpa using h0
    obtain ⟨env, h1, _, w1⟩ := DataW.trod_string Try.underlying9 e1
    obtain rfl : v1 = .string env := by simpa using h1
    obtain ⟨f, h2, _, w2⟩ := DataW.trod_int Try.underlying44 e2
    obtain rfl : v2 = .int .u64 f := by simpa using h2
    obtain ⟨g, h3, _, w3⟩ := DataW.trod_int Try.underlying44 e3
    obtain rfl : v3 = .int .u64 g := by simpa using h3
    obtain ⟨h, h4, _, w4⟩ := DataW.trod_int Try.underlying44 e4
    obtain rfl : v4 = .int .u64 h := by simpa using h4
    obtain ⟨mn, h5, _⟩ := DataW.trod_bool Try.underlying4 e5
    obtain rfl : v5 = .bool mn := by simpa using h5
    obtain ⟨rn, h6, _⟩ := DataW.trod_bool Try.underlying4 e6
    obtain rfl : v6 = .bool rn := by simpa using h6
    rcases open_strings Try.underlying25 Try.underlying9 (by kernel_rfl) e7 with ⟨hcs, _⟩ | ⟨x, l, c, zs, hcs, _, hl, hm, hz, _, hcell, hwz⟩
    · obtain rfl : v7 = .slice none 0 0 := by simpa using hcs
      exact ⟨n, env, f, g, h, mn, rn, none, 0, 0, _, rfl, w0, IsStrs.nil W⟩
    · obtain rfl : v7 = .slice (some x) l c := by simpa using hcs
      exact ⟨n, env, f, g, h, mn, rn, some x, l, c, _, rfl, w0, IsStrs.mk hl hm (by simpa using hz) hcell hwz⟩

def SomeB (w : World) (e : Ending) (w' : World) : Prop := (∃ b, e = .returned (.bool b)) ∧ Below w.heap.size w w'

theorem bytes10 (w : World) (n : Int) (env : ByteArray) (f g h : Int) (mn rn : Bool) (la : Option Addr) (ln lc : Nat) (V : Nat → ByteArray)  (hs : IsStrs w la ln lc V) :
    Calls Try.prog 10 #[.agg #[.int .u16 n, .string env, .int .u64 f, .int .u64 g, .int .u64 h, .bool mn, .bool rn, .slice la ln lc]] w (SomeB w) := by
  have HC : Hid (Row w la ln fun i => .string (V i)) := Lib.hid hs.2.2.1
  have hm := hs.2.1
  have HW : Hid (Below w.heap.size w (w.alloc (.cells #[.int .u16 n, .string env, .int .u64 f, .int .u64 g, .int .u64 h, .bool mn, .bool rn, .slice la ln lc] 65))) := Lib.hid ((Below.refl _ _).alloc (Nat.le_refl _) _)
  clear hs
  unfold maxLen at hm
  by_cases g1 : ln ≤ 1048576
  rotate_left
  · go_enter Try.func10, Try.ntmps10
    go_wp2
    all_goals (go_ret; exact ⟨⟨_, rfl⟩, HW.out⟩)
  go_enter Try.func10, Try.ntmps10
  go_wp2
  · go_ret; exact ⟨⟨_, rfl⟩, HW.out⟩
  · go_ret; exact ⟨⟨_, rfl⟩, HW.out⟩
  go_loopw [3, 4] (fun nn ii wr => ∃ (k : Nat) (c : Int), k ≤ ln ∧ ii = .int .i64 k ∧ nn = .int .i64 c ∧ w.alloc (.cells #[.int .u16 n, .string env, .int .u64 f, .int .u64 g, .int .u64 h, .bool mn, .bool rn, .slice la ln lc] 65) = wr) (fun n i _ => ln - (intOf i).toNat)
  case atStart => exact ⟨0, _, by omega, rfl, rfl, rfl⟩
  case round =>
    obtain ⟨k, c, hk, rfl, rfl, rfl⟩ := hrel
    by_cases hlt : k < ln
    · obtain ⟨b, off, rfl, hcell⟩ := HC.out (by omega)
      have c1 := hcell k hlt
      have hbl : b < w.heap.size := block_lt_of_cell c1
      clear hcell
      go_wp2
      · go_ret
        exact ⟨⟨_, rfl⟩, HW.out⟩
      · go_ret
        exact ⟨⟨_, rfl⟩, HW.out⟩
      · go_roundw
        case rel => exact ⟨k + 1, _, by omega, by go_num, rfl, trivial⟩
        case measure => simp [intOf]; omega
    · obtain rfl : k = ln := by omega
      go_wp2
      go_ret
      exact ⟨⟨_, rfl⟩, HW.out⟩

/-- The count: if it is small, there are few labels. -/
def CntP (w : World) (ln : Nat) (e : Ending) (w' : World) : Prop := (∃ c : Int, e = .returned (.int .i64 c) ∧ (c ≤ 1048576 → ln ≤ 65536)) ∧ Below w.heap.size w w'
theorem count11 (w : World) (n : Int) (env : ByteArray) (f g h : Int) (mn rn : Bool) (la : Option Addr) (ln lc : Nat) (V : Nat → ByteArray) (hs : IsStrs w la ln lc V) : Calls Try.prog 11 #[.agg #[.int .u16 n, .string env, .int .u64 f, .int .u64 g, .int .u64 h, .bool mn, .bool rn, .slice la ln lc]] w (CntP w ln) := by
  have HC : Hid (Row w la ln fun i => .string (V i)) := Lib.hid hs.2.2.1
  have hm := hs.2.1
  have HW : Hid (Below w.heap.size w (w.alloc (.cells #[.int .u16 n, .string env, .int .u64 f, .int .u64 g, .int .u64 h, .bool mn, .bool rn, .slice la ln lc] 65))) := Lib.hid ((Below.refl _ _).alloc (Nat.le_refl _) _)
  clear hs
  unfold maxLen at hm
  by_cases g1 : ln ≤ 65536
  rotate_left
  · go_enter Try.func11, Try.ntmps11
    go_wp2
    go_ret
    exact ⟨⟨_, rfl, fun h => absurd h (by decide)⟩, HW.out⟩
  go_enter Try.func11, Try.ntmps11
  go_wp2
  go_loopw [3, 4] (fun nn ii wr => ∃ (k : Nat) (c : Int), k ≤ ln ∧ ii = .int .i64 k ∧ nn = .int .i64 c ∧ w.alloc (.cells #[.int .u16 n, .string env, .int .u64 f, .int .u64 g, .int .u64 h, .bool mn, .bool rn, .slice la ln lc] 65) = wr) (fun n i _ => ln - (intOf i).toNat)
  case atStart => exact ⟨0, _, by omega, rfl, rfl, rfl⟩
  case round =>
    obtain ⟨k, c, hk, rfl, rfl, rfl⟩ := hrel
    by_cases hlt : k < ln
    · obtain ⟨b, off, rfl, hcell⟩ := HC.out (by omega)
      have c1 := hcell k hlt
      have hbl : b < w.heap.size := block_lt_of_cell c1
      clear hcell
      go_wp2
      · go_ret
        exact ⟨⟨_, rfl, fun _ => g1⟩, HW.out⟩
      · go_roundw
        case rel => exact ⟨k + 1, _, by omega, by go_num, rfl, trivial⟩
        case measure => simp [intOf]; omega
    · obtain rfl : k = ln := by omega
      go_wp2
      go_ret
      exact ⟨⟨_, rfl, fun _ => g1⟩, HW.out⟩
/-- A config whose labels have been cloned. -/
def ClC (w : World) (n : Int) (env : ByteArray) (f g h : Int) (mn rn : Bool) (ln : Nat) (V : Nat → ByteArray) (e : Ending) (w' : World) : Prop :=
  ∃ (la : Option Addr) (lc : Nat), e = .returned (.agg #[.int .u16 n, .string env, .int .u64 f, .int .u64 g, .int .u64 h, .bool mn, .bool rn, .slice la ln lc]) ∧ Row w' la ln (fun i => .string (V i)) ∧ (la = none → ln = 0 ∧ lc = 0) ∧ Below w.heap.size w w' ∧ ∀ x, la = some x → w.heap.size ≤ x.block
theorem clone17n (w : World) (la : Option Addr) (ln lc : Nat) (V : Nat → ByteArray) (hl : ln ≤ 1048576) (hr : Row w la ln (fun i => .string (V i))) (hnil : la = none → ln = 0 ∧ lc = 0) :
    Calls Try.prog 17 #[.slice la ln lc] w fun e w' => ∃ la' lc', e = .returned (.slice la' ln lc') ∧ Row w' la' ln (fun i => .string (V i)) ∧ (la' = none → ln = 0 ∧ lc' = 0) ∧ Below w.heap.size w w' ∧ ∀ x, la' = some x → w.heap.size ≤ x.block := by
  cases la with
  | none =>
    obtain ⟨rfl, rfl⟩ := hnil rfl
    exact (clone17_nil w).mono fun e w' ⟨he, hw⟩ => ⟨none, 0, he, by subst hw; exact ⟨(fun h => by omega), (fun _ => ⟨rfl, rfl⟩), Below.refl _ _, (fun x h => by cases h)⟩⟩
  | some x =>
    have hc : Cells w x ln fun i => .string (V i) := by
      by_cases h0 : ln = 0
      · subst h0; exact ⟨(fun h => by omega), (fun i h => by omega)⟩
      · obtain ⟨b, off, e, hc⟩ := hr (by omega)
        cases e
        exact ⟨fun _ => rfl, hc⟩
    refine (clone17 w x ln lc V hl hc).mono fun e w' ⟨he, hw⟩ => ⟨_, ln, he, ?_⟩
    subst hw
    refine ⟨fun h0 => ⟨_, 0, rfl, fun i hi => ?_⟩, (fun h => by cases h), (Below.refl _ _).alloc (Nat.le_refl _) _, (fun x h => by cases h; exact Nat.le_refl _)⟩
    have := (Cells.made w ln (fun i => Value.string (V i)) 9).2 i hi
    simpa using this
theorem clone12 (w : World) (n : Int) (env : ByteArray) (f g h : Int) (mn rn : Bool) (la : Option Addr) (ln lc : Nat) (V : Nat → ByteArray) (hl : ln ≤ 1048576) (hr : Row w la ln (fun i => .string (V i))) (hnil : la = none → ln = 0 ∧ lc = 0) :
    Calls Try.prog 12 #[.agg #[.int .u16 n, .string env, .int .u64 f, .int .u64 g, .int .u64 h, .bool mn, .bool rn, .slice la ln lc]] w (ClC w n env f g h mn rn ln V) := by
  have HR : ∀ w', Below w.heap.size w w' → Row w' la ln (fun i => .string (V i)) := fun w' hb => hr.below hb
  have HB : ∀ (a b : Obj), Hid (Below w.heap.size w ((w.alloc a).alloc b)) := fun a b => Lib.hid (((Below.refl _ _).alloc (Nat.le_refl _) _).alloc (by simp) _)
  have HNIL := Lib.hid hnil
  clear hr hnil
  have HA : ∀ (a b : Obj), ((w.alloc a).alloc b).heap[w.heap.size]? = some a := fun a b => heap_alloc2_old ..
  have HO : ∀ (a b : Obj), ((w.alloc a).alloc b).heap[w.heap.size + 1]? = some b := fun a b => by have := heap_alloc_new (w.alloc a) b; simpa using this
  have HA' := Lib.hid HA
  have HO' := Lib.hid HO
  clear HA HO
  go_enter Try.func12, Try.ntmps12
  go_wp2_with (first | (refine wpList_load_row rfl 65 _ rfl w.heap.size rfl 65 _ (0, 0) _ hr7.out Try.underlying65 rfl (by kernel_rfl) ?_) | (refine wpList_store_row rfl 65 _ _ rfl (w.heap.size + 1) _ rfl rfl 65 _ ho7.out (by kernel_rfl) rfl (by kernel_rfl) ?_) | (go_at_call 17; refine (clone17n _ la ln lc V hl (HR _ (HB _ _).out) HNIL.out).mono ?_; rintro e w3 ⟨la', lc', rfl, hrow, hnil', hb3, hnew⟩; have HNE3 : Hid (∀ x, la' = some x → w.heap.size ≤ x.block) := Lib.hid (fun x hx => by have := hnew x hx; simp at this; omega); have HNE : Hid (∀ x, la' = some x → x.block ≠ w.heap.size) := Lib.hid (fun x hx => by have := hnew x hx; simp at this; omega); have HNE2 : Hid (∀ x, la' = some x → x.block ≠ w.heap.size + 1) := Lib.hid (fun x hx => by have := hnew x hx; simp at this; omega); clear hnew; have hA3 := Lib.hid ((hb3.block _ (lt_of_block (HA'.out _ _))).trans (HA'.out _ _)); have hO3 := Lib.hid ((hb3.block _ (lt_of_block (HO'.out _ _))).trans (HO'.out _ _)); have HX := Lib.hid ((HB _ _).out.trans (hb3.mono (by simp; omega))); have HROW := Lib.hid hrow; have HN' := Lib.hid hnil'; clear hrow hnil' hb3; have k7 : w3.cell? ⟨w.heap.size, 7, none⟩ = some (.slice la ln lc) := (cell_of_row _ _ 7 _ _ _ hA3.out).trans rfl; have f7 : w3.frozen? ⟨w.heap.size, 7, none⟩ = false := frozen_of_row _ _ 7 _ _ hA3.out; have hr7 : Hid ((w3.setCell ⟨w.heap.size, 7, none⟩ (.slice la' ln lc')).heap[w.heap.size]? = some (.cells #[.int .u16 n, .string env, .int .u64 f, .int .u64 g, .int .u64 h, .bool mn, .bool rn, .slice la' ln lc'] 65 (0, 0))) := Lib.hid (heap_setCell_same w3 w.heap.size 7 _ 65 (.slice la' ln lc') hA3.out); have ho7 := Lib.hid ((Below.heap_setCell w3 ⟨w.heap.size, 7, none⟩ (.slice la' ln lc') (w.heap.size + 1) (by simp)).trans hO3.out)))
  have hfin := setRow_heap _ _ _ #[.int .u16 n, .string env, .int .u64 f, .int .u64 g, .int .u64 h, .bool mn, .bool rn, .slice la' ln lc'] _ _ ho7.out
  exact bodyPost_ret (results_cell_row rfl _ _ (w.heap.size + 1) 65 _ (0, 0) _ rfl hfin Try.underlying65 rfl (by kernel_rfl)) rfl ⟨la', lc', rfl, RowsetRow (Rowput HROW.out (HNE.out)) (HNE2.out), HN'.out, below_setRow (HX.out.setCell (by simp) _) (by omega) _, HNE3.out⟩

theorem IsStrs.below {w w' : World} {a : Option Addr} {n c : Nat} {Z : Nat → ByteArray} (h : IsStrs w a n c Z) (hb : Below w.heap.size w w') : IsStrs w' a n c Z := ⟨h.1, h.2.1, h.2.2.1.below hb, h.2.2.2⟩
/-- The state of a law: the config lies in block A. -/
def Cst (w0 : World) (A : Nat) (n : Int) (env : ByteArray) (f g h : Int) (mn rn : Bool) (la : Option Addr) (ln lc : Nat) (V : Nat → ByteArray) (w : World) : Prop := Below w0.heap.size w0 w ∧ w0.heap.size ≤ A ∧ w.heap[A]? = some (.cells #[.int .u16 n, .string env, .int .u64 f, .int .u64 g, .int .u64 h, .bool mn, .bool rn, .slice la ln lc] 65 (0, 0)) ∧ IsStrs w la ln lc V
section
variable {w0 w w' : World} {A : Nat} {n : Int} {env : ByteArray} {f g h : Int} {mn rn : Bool} {la : Option Addr} {ln lc : Nat} {V : Nat → ByteArray}
theorem Cst.next (hc : Cst w0 A n env f g h mn rn la ln lc V w) (hb : Below w.heap.size w w') : Cst w0 A n env f g h mn rn la ln lc V w' :=
  ⟨hc.1.trans (hb.mono hc.1.size), hc.2.1, (hb.block _ (lt_of_block hc.2.2.1)).trans hc.2.2.1, hc.2.2.2.below hb⟩
theorem Cst.held (_hc : Cst w0 A n env f g h mn rn la ln lc V w) : Held w [] := fun p hp => by cases hp
theorem Cst.alloc (hc : Cst w0 A n env f g h mn rn la ln lc V w) (o : Obj) : Cst w0 A n env f g h mn rn la ln lc V (w.alloc o) := hc.next ((Below.refl _ _).alloc (Nat.le_refl _) _)
theorem Cst.put {la' : Option Addr} {lc' : Nat} (hc : Cst w0 A n env f g h mn rn la ln lc V w) (hb : Below w.heap.size w w') (hr : Row w' la' ln (fun i => .string (V i))) (hnil : la' = none → ln = 0 ∧ lc' = 0) (hnew : ∀ x, la' = some x → w.heap.size ≤ x.block) :
    Cst w0 A n env f g h mn rn la' ln lc' V (w'.setRow A #[.int .u16 n, .string env, .int .u64 f, .int .u64 g, .int .u64 h, .bool mn, .bool rn, .slice la' ln lc']) := by
  have h' := hc.next hb
  refine ⟨below_setRow h'.1 hc.2.1 _, hc.2.1, setRow_heap _ _ _ _ _ _ h'.2.2.1, hnil, hc.2.2.2.2.1, RowsetRow hr fun x hx => ?_, hc.2.2.2.2.2.2⟩
  have := hnew x hx
  have := lt_of_block hc.2.2.1
  omega
end
end Go.Proofs.Ytbebfpmnekbldaa.op
