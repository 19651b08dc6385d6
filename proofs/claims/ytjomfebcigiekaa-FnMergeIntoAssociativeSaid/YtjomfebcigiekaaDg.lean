/-
  Deferred errors: equal ones are told equal.
-/
import Derived.Test.YtjomfebcigiekaaDf
import Derived.Laws.StructEq
import Derived.Deep.QuietTactic

namespace Go.Proofs.Ytjomfebcigiekaa.de
open Go.ChangeShapes Go.WideShapes Go.ChangeAt Go.RowKit Go.Deep
set_option linter.unusedVariables false
set_option linter.unusedSimpArgs false
set_option linter.unnecessarySimpa false
set_option maxRecDepth 100000
set_option maxHeartbeats 1000000
theorem equal9 (w : World) (p z : Nat → Int) (xa xb : Option Addr) (n ca cb : Nat) (hn : n ≤ 131072) (ha : Row w xa (n * 2) (zc z)) (hb : Row w xb (n * 2) (zc z)) :
    Calls Try.prog 9 #[.agg (dA p xa n ca), .agg (dA p xb n cb)] w fun e w' => e = .returned (.bool true) ∧ Below w.heap.size w w' := by
  have hb0 : Below w.heap.size w ((w.alloc (.cells (dA p xa n ca) 36)).alloc (.cells (dA p xb n cb) 36)) := ((Below.refl _ _).alloc (Nat.le_refl _) _).alloc (by simp) _
  have e1 : ((w.alloc (.cells (dA p xa n ca) 36)).alloc (.cells (dA p xb n cb) 36)).heap[w.heap.size]? = some (.cells (dA p xa n ca) 36 (0, 0)) := heap_alloc2_old ..
  have e2 : ((w.alloc (.cells (dA p xa n ca) 36)).alloc (.cells (dA p xb n cb) 36)).heap[w.heap.size + 1]? = some (.cells (dA p xb n cb) 36 (0, 0)) := by
    have h := heap_alloc_new (w.alloc (.cells (dA p xa n ca) 36)) (.cells (dA p xb n cb) 36)
    rw [show (w.alloc (.cells (dA p xa n ca) 36)).heap.size = w.heap.size + 1 by simp] at h
    exact h
  have H1 := Lib.hid e1
  have H2 := Lib.hid e2
  have HB0 := Lib.hid hb0
  have HRA := Lib.hid ((ha.below ((Below.refl _ _).alloc (Nat.le_refl _) (.cells (dA p xa n ca) 36))).below ((Below.refl _ _).alloc (Nat.le_refl _) (.cells (dA p xb n cb) 36)))
  have HRB := Lib.hid ((hb.below ((Below.refl _ _).alloc (Nat.le_refl _) (.cells (dA p xa n ca) 36))).below ((Below.refl _ _).alloc (Nat.le_refl _) (.cells (dA p xb n cb) 36)))
  clear e1 e2 hb0 ha hb
  go_enter Try.func9, Try.ntmps9
  go_upto_region 1 with (fail)
  generalize ((w.alloc (.cells (dA p xa n ca) 36)).alloc (.cells (dA p xb n cb) 36)) = w1 at *
  have a0 : w1.cell? ⟨w.heap.size, 0, none⟩ = some (.int .i32 (p 0)) := (cell_of_row _ _ 0 _ _ _ H1.out).trans rfl
  have a1 : w1.cell? ⟨w.heap.size, 1, none⟩ = some (.int .i32 (p 1)) := (cell_of_row _ _ 1 _ _ _ H1.out).trans rfl
  have a2 : w1.cell? ⟨w.heap.size, 2, none⟩ = some (.int .i32 (p 2)) := (cell_of_row _ _ 2 _ _ _ H1.out).trans rfl
  have a3 : w1.cell? ⟨w.heap.size, 3, none⟩ = some (.int .i32 (p 3)) := (cell_of_row _ _ 3 _ _ _ H1.out).trans rfl
  have a4 : w1.cell? ⟨w.heap.size, 4, none⟩ = some (.int .i32 (p 4)) := (cell_of_row _ _ 4 _ _ _ H1.out).trans rfl
  have a5 : w1.cell? ⟨w.heap.size, 5, none⟩ = some (.int .i32 (p 5)) := (cell_of_row _ _ 5 _ _ _ H1.out).trans rfl
  have a6 : w1.cell? ⟨w.heap.size, 6, none⟩ = some (.slice xa n ca) := (cell_of_row _ _ 6 _ _ _ H1.out).trans rfl
  have b0 : w1.cell? ⟨w.heap.size + 1, 0, none⟩ = some (.int .i32 (p 0)) := (cell_of_row _ _ 0 _ _ _ H2.out).trans rfl
  have b1 : w1.cell? ⟨w.heap.size + 1, 1, none⟩ = some (.int .i32 (p 1)) := (cell_of_row _ _ 1 _ _ _ H2.out).trans rfl
  have b2 : w1.cell? ⟨w.heap.size + 1, 2, none⟩ = some (.int .i32 (p 2)) := (cell_of_row _ _ 2 _ _ _ H2.out).trans rfl
  have b3 : w1.cell? ⟨w.heap.size + 1, 3, none⟩ = some (.int .i32 (p 3)) := (cell_of_row _ _ 3 _ _ _ H2.out).trans rfl
  have b4 : w1.cell? ⟨w.heap.size + 1, 4, none⟩ = some (.int .i32 (p 4)) := (cell_of_row _ _ 4 _ _ _ H2.out).trans rfl
  have b5 : w1.cell? ⟨w.heap.size + 1, 5, none⟩ = some (.int .i32 (p 5)) := (cell_of_row _ _ 5 _ _ _ H2.out).trans rfl
  have b6 : w1.cell? ⟨w.heap.size + 1, 6, none⟩ = some (.slice xb n cb) := (cell_of_row _ _ 6 _ _ _ H2.out).trans rfl
  go_wp2_with fail
  clear a0 a1 a2 a3 a4 a5 b0 b1 b2 b3 b4 b5 H1 H2
  go_loopw [5] (fun ii wr => ∃ (k nq : Nat), k ≤ n ∧ ii = .int .i64 k ∧ w1.drewN nq = wr) (fun ii _ => n - (intOf ii).toNat)
  case atStart => exact ⟨0, 0, by omega, rfl, rfl⟩
  case round =>
    obtain ⟨k, nq0, hk, rfl, rfl⟩ := hrel
    by_cases hlt : k < n
    · obtain ⟨b, off, rfl, hc⟩ := HRA.out (by omega)
      obtain ⟨b', off', rfl, hc'⟩ := HRB.out (by omega)
      have c1 : w1.cell? ⟨b, off + k * 2, none⟩ = some (.int .i32 (z (k * 2))) := hc (k * 2) (by omega)
      have c2 : w1.cell? ⟨b, off + k * 2 + 1, none⟩ = some (.int .i32 (z (k * 2 + 1))) := hc (k * 2 + 1) (by omega)
      have d1 : w1.cell? ⟨b', off' + k * 2, none⟩ = some (.int .i32 (z (k * 2))) := hc' (k * 2) (by omega)
      have d2 : w1.cell? ⟨b', off' + k * 2 + 1, none⟩ = some (.int .i32 (z (k * 2 + 1))) := hc' (k * 2 + 1) (by omega)
      have l0 : (0 : Int) ≤ (k : Int) := by omega
      have l1 : (k : Int) < (n : Int) := by omega
      clear hc hc'
      go_wp2_with fail
      go_quiet (fail)
      go_wp2_with fail
      go_roundw
      case rel => exact ⟨k + 1, _, by omega, by go_num, rfl⟩
      case measure => simp [intOf]; omega
    · obtain rfl : n = k := by omega
      go_wp2_with fail
      go_ret
      exact ⟨rfl, HB0.out.trans ⟨rfl, rfl, rfl, Nat.le_refl _, fun _ _ => rfl⟩⟩
end Go.Proofs.Ytjomfebcigiekaa.de
