/-
  Rows that grow by one integer; copies of a row, nil or not.
-/
import Derived.Test.YtfnicbfdfceagaaFmtLh
namespace Go.Proofs.YtfnicbfdfceagaaFmt.lg
open Go.ChangeShapes Go.WideShapes Go.ChangeAt Go.RowKit Go.Deep
set_option linter.unusedVariables false
set_option linter.unusedSimpArgs false
set_option maxRecDepth 100000
set_option maxHeartbeats 4000000
/-- A row of integers that is owned, from base on. -/
structure Ow (base : Nat) (w0 w : World) (v : Value) (ys : List Int) : Prop where
  own : w.ownsRow base 3 1 v ys.length (ys.map i64)
  bel : Below base w0 w
  there : ∃ g cap, v = .slice (some ⟨g, 0, none⟩) ys.length cap
  size : base ≤ w.heap.size
theorem Ow.ir {base : Nat} {w0 w : World} {v : Value} {ys : List Int} (h : Ow base w0 w v ys) : ∃ g cap, v = .slice (some ⟨g, 0, none⟩) ys.length cap ∧ IR w g ys ∧ base ≤ g ∧ g < w.heap.size := by
  obtain ⟨g, cap, e⟩ := h.there
  obtain ⟨h1, h2 | ⟨g', cap', cur, e', hb, hh, r1, r2, r3, r4⟩⟩ := h.own
  · rw [h2.1] at e; cases e
  · rw [e] at e'
    cases e'
    refine ⟨g, cap, e, ⟨fun i hi => ?_, fun q => frozen_of_row _ _ _ _ _ hh⟩, hb, lt_of_block hh⟩
    have h3 : (cur.toList.take (ys.length * 1))[i]? = (ys.map i64)[i]? := by rw [r4]
    rw [List.getElem?_take, if_pos (by omega)] at h3
    rw [cell_of_row w _ _ _ _ _ hh]
    simpa [hi] using h3
theorem info3p : (Tryf.prog.info? 3).map (fun i => (i.zero.map (·.cells), i.size, i.bytes)) = some (some #[i64 0], 1, 8) := by kernel_rfl
theorem make0 (w : World) (c : Nat) (hc : c ≤ 1000000) : (Instr.makeSlice 28 (.int .i64 0) (.int .i64 (c : Int))).run Tryf.prog w = .ok (.slice (some ⟨w.heap.size, 0, none⟩) 0 c) (w.alloc (.cells (madeCells #[i64 0] c) 3)) := by
  obtain ⟨i, z, h1, h2, h3, h4, h5⟩ := parts_of info3p
  have := run_make w 28 3 i z Tryf.underlying28 h1 h2 .i64 .i64 0 c (Int.le_refl _) (by omega) (by rw [h5]; omega) (by omega)
  rw [h3, h4] at this
  simpa using this
theorem Ow.made (w : World) (c : Nat) (hc : c ≤ 1000000) : Ow w.heap.size w (w.alloc (.cells (madeCells #[i64 0] c) 3)) (.slice (some ⟨w.heap.size, 0, none⟩) 0 c) [] :=
  ⟨World.ownsRow_made w _ c (Nat.le_refl _) (by unfold maxLen; omega) (by simp [size_madeCells]), (Below.refl _ _).alloc (Nat.le_refl _) _, ⟨_, _, rfl⟩, by simp⟩
/-- 'append(v, y)'. -/
theorem app1 {ops : Array Oper} {rest : List Oper} {o : Oper} {a : Act} {Q : Exit → Act → World → Prop} (s x : Operand) (hgd : o.guard = none)
    (ho : o.op = .call { callee := .builtin .append, args := #[s, x], argTypes := #[28, 28] })
    (base : Nat) (w0 w : World) (v : Value) (ys : List Int) (y : Int) (c : Nat) (hs : a.eval s = v) (hb : Ow base w0 w v ys)
    (hx : a.eval x = .slice (some ⟨w.heap.size, 0, none⟩) 1 c) (hlen : ys.length ≤ 1000000)
    (h : ∀ v' w', Ow base w0 w' v' (ys ++ [y]) → wpList Tryf.prog ops Q rest (a.put o.dst v') w') : wpList Tryf.prog ops Q (o :: rest) a (w.alloc (.cells #[i64 y] 3)) := by
  obtain ⟨i, z, h1, h2, h3, h4, h5⟩ := parts_of info3p
  refine wpList_append_lies _ hgd s x 28 ho base 3 i z 1 8 Tryf.underlying28 h1 h2 h4 h5 (by rw [h3]; rfl) (by decide) v ys.length (ys.map i64) hs (hb.own.alloc _) ⟨w.heap.size, 0, none⟩ 1 c [i64 y] hx rfl
    (World.news_of_block (heap_alloc_new w _)) (by simp [Value.oneCell']) (by decide) (by unfold maxLen; omega) (by omega) (by have := hb.size; simp; omega) _ rfl ?_
  intro g cap w' ho' hg hat hlt
  refine h _ w' ⟨?_, ?_, ⟨g, cap, by simp⟩, ?_⟩
  · rw [List.length_append, List.map_append]; exact ho'
  · have t : Below base (w.alloc (.cells #[i64 y] 3)) w' := ⟨hg.os, hg.tape, hg.output, hg.size, fun k hk => hg.block k (by simp; have := hb.size; omega) (fun e => by have := (hb.own.lt k e.symm).1; omega)⟩
    exact (hb.bel.alloc hb.size _).trans t
  · have h1 := hg.size
    have h2 := hb.size
    simp at h1; omega
/-- A row of numbers as an argument: nil, or cells. -/
def Arg (w : World) (g : Option Addr) (n c : Nat) (V : Nat → Int) : Prop := (g = none → n = 0 ∧ c = 0) ∧ ∀ x, g = some x → Cells w x n fun i => .int .i32 (V i)
/-- A copied row. -/
def Rw (w : World) (g : Option Addr) (n : Nat) (V : Nat → Int) : Prop := ∀ i, i < n → ∃ b, g = some ⟨b, 0, none⟩ ∧ w.cell? ⟨b, i, none⟩ = some (i32 (V i))
theorem Rw.below {w w' : World} {g : Option Addr} {n : Nat} {V : Nat → Int} (h : Rw w g n V) (k : Below w.heap.size w w') : Rw w' g n V := fun i hi => by
  obtain ⟨b, e, c⟩ := h i hi
  exact ⟨b, e, (k.cell (p := ⟨b, i, none⟩) (block_lt_of_cell c)).trans c⟩
def CloneP (w : World) (n : Nat) (V : Nat → Int) (e : Ending) (w' : World) : Prop := ∃ g c, e = .returned (.slice g n c) ∧ Rw w' g n V ∧ Below w.heap.size w w'
theorem cloneAny (w : World) (g : Option Addr) (n c : Nat) (V : Nat → Int) (h : Arg w g n c V) (hn : n ≤ 1048576) : Calls Tryf.prog 7 #[.slice g n c] w (CloneP w n V) := by
  cases g with
  | none =>
    obtain ⟨rfl, rfl⟩ := h.1 rfl
    refine (clone7_nil w).mono ?_
    rintro e w' ⟨rfl, rfl⟩
    exact ⟨none, 0, rfl, fun i hi => absurd hi (Nat.not_lt_zero _), Below.refl _ _⟩
  | some x =>
    refine (clone7 w x n c V hn (h.2 x rfl)).mono ?_
    rintro e w' ⟨rfl, rfl⟩
    refine ⟨some ⟨w.heap.size, 0, none⟩, n, rfl, fun i hi => ⟨_, rfl, ?_⟩, (Below.refl _ _).alloc (Nat.le_refl _) _⟩
    rw [cell_of_row _ _ _ _ _ _ (heap_alloc_new _ _)]
    simp [hi]
theorem info32p : (Tryf.prog.info? 32).map (fun i => (i.zero.map (·.cells), i.size, i.bytes)) = some (some #[i32 0, i32 0], 2, 8) := by kernel_rfl
theorem make27 (w : World) (c : Nat) (hc : c ≤ 1000000) : (Instr.makeSlice 27 (.int .i64 (c : Int)) (.int .i64 (c : Int))).run Tryf.prog w = .ok (.slice (some ⟨w.heap.size, 0, none⟩) c c) (w.alloc (.cells (madeCells #[i32 0, i32 0] (c * 2)) 32)) := by
  obtain ⟨i, z, h1, h2, h3, h4, h5⟩ := parts_of info32p
  have := run_make w 27 32 i z Tryf.underlying27 h1 h2 .i64 .i64 c c (by omega) (Int.le_refl _) (by rw [h5]; omega) (by omega)
  rw [h3, h4] at this
  simpa using this
/-- The row of ranges, filled up to place i. -/
structure PRow (w : World) (r k i : Nat) (V5 V6 : Nat → Int) : Prop where
  c : ∀ j, j < i → w.cell? ⟨r, j * 2, none⟩ = some (i32 (V5 j)) ∧ w.cell? ⟨r, j * 2 + 1, none⟩ = some (i32 (V6 j))
  e : ∀ q, q < k * 2 → ∃ v, w.cell? ⟨r, q, none⟩ = some v
  z : ∀ q, w.frozen? ⟨r, q, none⟩ = false
theorem PRow.made (w : World) (k : Nat) (V5 V6 : Nat → Int) : PRow (w.alloc (.cells (madeCells #[i32 0, i32 0] (k * 2)) 32)) w.heap.size k 0 V5 V6 := by
  refine ⟨fun j hj => absurd hj (Nat.not_lt_zero _), fun q hq => ?_, fun q => frozen_of_row _ _ _ _ _ (heap_alloc_new _ _)⟩
  rw [cell_of_row _ _ _ _ _ _ (heap_alloc_new _ _)]
  exact ⟨_, Array.getElem?_eq_getElem (by rw [size_madeCells]; exact hq)⟩
theorem PRow.of_block {w w' : World} {r k i : Nat} {V5 V6 : Nat → Int} (h : PRow w r k i V5 V6) (e : w'.heap[r]? = w.heap[r]?) : PRow w' r k i V5 V6 := by
  have c : ∀ q, w'.cell? ⟨r, q, none⟩ = w.cell? ⟨r, q, none⟩ := fun q => World.cell?_of_block (a := ⟨r, q, none⟩) e
  exact ⟨fun j hj => ⟨(c _).trans (h.c j hj).1, (c _).trans (h.c j hj).2⟩, fun q hq => by rw [c]; exact h.e q hq, fun q => (World.frozen?_of_block (a := ⟨r, q, none⟩) e).trans (h.z q)⟩
theorem PRow.step {w : World} {r k i : Nat} {V5 V6 : Nat → Int} (h : PRow w r k i V5 V6) (hi : i < k) : PRow ((w.setCell ⟨r, i * 2, none⟩ (i32 (V5 i))).setCell ⟨r, i * 2 + 1, none⟩ (i32 (V6 i))) r k (i + 1) V5 V6 := by
  obtain ⟨v0, h0⟩ := h.e (i * 2) (by omega)
  obtain ⟨v1, h1⟩ := h.e (i * 2 + 1) (by omega)
  refine ⟨fun j hj => ?_, fun q hq => ?_, fun q => by rw [World.frozen?_setCell, World.frozen?_setCell]; exact h.z q⟩
  · by_cases e : j = i
    · subst e
      refine ⟨?_, World.cell?_setCell_same _ _ _ ((World.cell?_setCell_other _ ⟨r, j * 2, none⟩ ⟨r, j * 2 + 1, none⟩ _ (off_ne (by omega))).trans h1)⟩
      exact (World.cell?_setCell_other _ ⟨r, j * 2 + 1, none⟩ ⟨r, j * 2, none⟩ _ (off_ne (by omega))).trans (World.cell?_setCell_same _ _ _ h0)
    · obtain ⟨a, b⟩ := h.c j (by omega)
      exact ⟨(World.cell?_setCell_other _ ⟨r, i * 2 + 1, none⟩ ⟨r, j * 2, none⟩ _ (off_ne (by omega))).trans ((World.cell?_setCell_other _ ⟨r, i * 2, none⟩ ⟨r, j * 2, none⟩ _ (off_ne (by omega))).trans a), (World.cell?_setCell_other _ ⟨r, i * 2 + 1, none⟩ ⟨r, j * 2 + 1, none⟩ _ (off_ne (by omega))).trans ((World.cell?_setCell_other _ ⟨r, i * 2, none⟩ ⟨r, j * 2 + 1, none⟩ _ (off_ne (by omega))).trans b)⟩
  · by_cases e : q = i * 2 + 1
    · subst e
      exact ⟨_, World.cell?_setCell_same _ _ _ ((World.cell?_setCell_other _ ⟨r, i * 2, none⟩ ⟨r, i * 2 + 1, none⟩ _ (off_ne (by omega))).trans h1)⟩
    · rw [World.cell?_setCell_other _ ⟨r, i * 2 + 1, none⟩ ⟨r, q, none⟩ _ (off_ne (by omega))]
      by_cases e2 : q = i * 2
      · subst e2; exact ⟨_, World.cell?_setCell_same _ _ _ h0⟩
      · rw [World.cell?_setCell_other _ ⟨r, i * 2, none⟩ ⟨r, q, none⟩ _ (off_ne (by omega))]; exact h.e q hq
end Go.Proofs.YtfnicbfdfceagaaFmt.lg
