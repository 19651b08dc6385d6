/-
  Options: literals under names.
-/
import Derived.Test.YtbebfpmnekbldaaProg
import Derived.WalkKit
import Derived.ProofKit
import Derived.OpenShut
import Derived.ShutString
import Derived.Lib.Hide
import Derived.WalkLawsBesides
import Derived.Deep.OwnRows
import Derived.Laws.Rows
import Derived.OneCell
import Derived.Below
import Derived.WalkSpells
import Derived.Laws.Tables
import Derived.WalkSmall
import Derived.Outline
import Derived.BigQuiet
import Derived.Deep.RegionLaw
import Derived.Deep.WholeRow
import Derived.Deep.MidRow
import Derived.Great.Ranges
import Derived.Great.Walk
import Derived.Still

namespace Go.Proofs.Ytbebfpmnekbldaa.op
open Go.ChangeShapes Go.WideShapes Go.ChangeAt Go.RowKit Go.Deep
set_option linter.unusedVariables false
set_option linter.unusedSimpArgs false
/-- The cells of a literal of type 58: the named fields as given, all else zero. -/
noncomputable def sy  : Array Value := (Try.prog.built 58 [(22, .bool true)]).getD #[]
theorem sy_built  : Try.prog.built 58 [(22, .bool true)] = some (sy ) := by kernel_rfl
theorem sy_wp {o : Oper} {a : Act} {w : World} {K : Act → World → Prop} {Q : Exit → Act → World → Prop} (x0 : Operand) (ho : o.op = .build 58 #[(22, x0)])  (h0 : a.eval x0 = .bool true)
    (h : K (a.put o.dst (.agg (sy ))) w) : o.wp Try.prog a w K Q := by
  refine wp_build 58 _ ho ?_ ?_
  · simp only [List.map_toArray, List.map_cons, List.map_nil, sy_built, h0]; rfl
  · simp only [List.map_toArray, List.map_cons, List.map_nil, sy_built, h0, Option.getD_some]; exact h

/-- The cells of a literal of type 60: the named fields as given, all else zero. -/
noncomputable def oy  : Array Value := (Try.prog.built 60 [(7, .agg sy)]).getD #[]
theorem oy_built  : Try.prog.built 60 [(7, .agg sy)] = some (oy ) := by kernel_rfl
theorem oy_wp {o : Oper} {a : Act} {w : World} {K : Act → World → Prop} {Q : Exit → Act → World → Prop} (x0 : Operand) (ho : o.op = .build 60 #[(7, x0)])  (h0 : a.eval x0 = .agg sy)
    (h : K (a.put o.dst (.agg (oy ))) w) : o.wp Try.prog a w K Q := by
  refine wp_build 60 _ ho ?_ ?_
  · simp only [List.map_toArray, List.map_cons, List.map_nil, oy_built, h0]; rfl
  · simp only [List.map_toArray, List.map_cons, List.map_nil, oy_built, h0, Option.getD_some]; exact h


noncomputable def oz : Array Value := (Try.prog.built 60 []).getD #[]
theorem oy_size : oy.size = 51 := by kernel_rfl
set_option maxRecDepth 100000
set_option maxHeartbeats 4000000
theorem oz_info : (Try.prog.info? 60).map (fun i => (i.zero, i.size)) = some (some (.agg oz), 51) := by kernel_rfl
theorem alloc60_run (ρ : Operand → Value) (o : Oper) (ho : o.op = .alloc 60) (w : World) : (execOp ρ o).run Try.prog w = .ok (.value (.pointer (some ⟨w.heap.size, 0, none⟩))) (w.alloc (.cells oz 60)) := by
  have hz := (zero_of_info oz_info).1
  unfold execOp
  simp only [ho, Sem.run_bind, Instr.alloc, newVar, newRow, run_newObj_alloc, Sem.run_pure, Result.andThen_ok, hz, Value.cells]
theorem yarn7 (w : World) : Calls Try.prog 7 #[] w (fun e w' => e = .returned (.agg oy) ∧ Below w.heap.size w w') := by
  go_enter Try.func7, Try.ntmps7
  refine wp_seq_k fun K hK => ?_
  refine wp_region_list ?_
  refine Go.Great.wpList_allocTo rfl _ rfl (.pointer (some ⟨w.heap.size, 0, none⟩)) (.cells oz 60) (alloc60_run _ _ rfl w) ?_
  refine wpList_nil ?_
  refine hK _ _ ?_
  clear hK K
  refine wp_seq_k fun K hK => ?_
  refine wp_region_list ?_
  refine wpList_plain rfl fun K2 hK2 => sy_wp _ rfl rfl ?_
  refine hK2 _ _ ?_
  clear hK2 K2
  refine wpList_plain rfl fun K2 hK2 => oy_wp _ rfl rfl ?_
  refine hK2 _ _ ?_
  clear hK2 K2
  refine wpList_store_row rfl 60 _ _ rfl w.heap.size oy rfl rfl 60 oz (heap_alloc_new _ _) (by rw [oy_size]; kernel_rfl) (by kernel_rfl) (by kernel_rfl) ?_
  refine wpList_nil ?_
  refine hK _ _ ?_
  clear hK K
  rw [World.setRow_alloc_new]
  go_wp2_with fail
  refine bodyPost_ret (results_cell_row rfl _ _ w.heap.size 60 oy (0, 0) _ rfl (heap_alloc_new _ _) Try.underlying60 rfl (by rw [oy_size]; kernel_rfl)) rfl ⟨rfl, (Below.refl _ _).alloc (Nat.le_refl _) _⟩
end Go.Proofs.Ytbebfpmnekbldaa.op
