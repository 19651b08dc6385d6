/-
  Deferred errors: three are counted; the law.
-/
import Derived.Test.YtjomfebcigiekaaDg

namespace Go.Proofs.Ytjomfebcigiekaa.de
open Go.ChangeShapes Go.WideShapes Go.ChangeAt Go.RowKit Go.Deep
set_option linter.unusedVariables false
set_option linter.unusedSimpArgs false
set_option linter.unnecessarySimpa false
set_option maxRecDepth 100000
set_option maxHeartbeats 1000000
def SomeB (w : World) (e : Ending) (w' : World) : Prop := (∃ b, e = .returned (.bool b)) ∧ Below w.heap.size w w'
theorem bytes6 (w : World) (p q r : Nat → Int) (xa xb xc : Option Addr) (n ca m cb l cc : Nat) (hn : n ≤ maxLen) (hm : m ≤ maxLen) (hl : l ≤ maxLen) : Calls Try.prog 6 #[.agg (dA p xa n ca), .agg (dA q xb m cb), .agg (dA r xc l cc)] w (SomeB w) := by
  have hb0 : Below w.heap.size w (((w.alloc (.cells (dA p xa n ca) 31)).alloc (.cells (dA q xb m cb) 31)).alloc (.cells (dA r xc l cc) 31)) := (((Below.refl _ _).alloc (Nat.le_refl _) _).alloc (by simp) _).alloc (by simp; omega) _
  have e1 : (((w.alloc (.cells (dA p xa n ca) 31)).alloc (.cells (dA q xb m cb) 31)).alloc (.cells (dA r xc l cc) 31)).heap[w.heap.size]? = some (.cells (dA p xa n ca) 31 (0, 0)) := blk (heap_alloc2_old ..) ((Below.refl _ _).alloc (Nat.le_refl _) _)
  have e2 : (((w.alloc (.cells (dA p xa n ca) 31)).alloc (.cells (dA q xb m cb) 31)).alloc (.cells (dA r xc l cc) 31)).heap[w.heap.size + 1]? = some (.cells (dA q xb m cb) 31 (0, 0)) := by
    have h := heap_alloc2_old (w.alloc (.cells (dA p xa n ca) 31)) (.cells (dA q xb m cb) 31) (.cells (dA r xc l cc) 31)
    rw [show (w.alloc (.cells (dA p xa n ca) 31)).heap.size = w.heap.size + 1 by simp] at h
    exact h
  have e3 : (((w.alloc (.cells (dA p xa n ca) 31)).alloc (.cells (dA q xb m cb) 31)).alloc (.cells (dA r xc l cc) 31)).heap[w.heap.size + 1 + 1]? = some (.cells (dA r xc l cc) 31 (0, 0)) := by
    have h := heap_alloc_new ((w.alloc (.cells (dA p xa n ca) 31)).alloc (.cells (dA q xb m cb) 31)) (.cells (dA r xc l cc) 31)
    rw [show ((w.alloc (.cells (dA p xa n ca) 31)).alloc (.cells (dA q xb m cb) 31)).heap.size = w.heap.size + 1 + 1 by simp] at h
    exact h
  have H1 := Lib.hid e1
  have H2 := Lib.hid e2
  have H3 := Lib.hid e3
  have HB0 := Lib.hid hb0
  clear e1 e2 e3 hb0
  unfold maxLen at hn hm hl
  go_enter Try.func6, Try.ntmps6
  go_upto_region 1 with (fail)
  generalize (((w.alloc (.cells (dA p xa n ca) 31)).alloc (.cells (dA q xb m cb) 31)).alloc (.cells (dA r xc l cc) 31)) = w1 at *
  have k0 : w1.cell? ⟨w.heap.size, 6, none⟩ = some (.slice xa n ca) := (cell_of_row _ _ 6 _ _ _ H1.out).trans rfl
  have k1 : w1.cell? ⟨w.heap.size + 1, 6, none⟩ = some (.slice xb m cb) := (cell_of_row _ _ 6 _ _ _ H2.out).trans rfl
  have k2 : w1.cell? ⟨w.heap.size + 1 + 1, 6, none⟩ = some (.slice xc l cc) := (cell_of_row _ _ 6 _ _ _ H3.out).trans rfl
  go_wp2_with fail
  all_goals (go_ret; exact ⟨⟨_, rfl⟩, HB0.out⟩)
end Go.Proofs.Ytjomfebcigiekaa.de
