/-
  Options: OptionsFromConfig.
-/
import Derived.Test.YtbebfpmnekbldaaOk
import Derived.Laws.CopyOwn

namespace Go.Proofs.Ytbebfpmnekbldaa.op
open Go.ChangeShapes Go.WideShapes Go.ChangeAt Go.RowKit Go.Deep
set_option linter.unusedVariables false
set_option linter.unusedSimpArgs false
set_option maxRecDepth 100000
set_option maxHeartbeats 1000000
theorem from19 (w : World) (C : Nat) (b0 : Bool) (b1 : Bool) (b2 : Bool) (b3 : Bool) (b4 : Bool) (b5 : Bool) (b6 : Bool) (b7 : Bool) (b8 : Bool) (b9 : Bool) (b10 : Bool) (env : ByteArray) (f : Int) (g : Int) (h : Int) (la : Option Addr) (ln lc : Nat) (m r : Option Addr) (hC : w.heap[C]? = some (.cells (cw b0 b1 b2 b3 b4 b5 b6 b7 b8 b9 b10 env f g h la ln lc m r) 97 (0, 0))) :
    Calls Try.prog 19 #[.pointer (some ⟨C, 0, none⟩)] w (fun e w' => e = .returned (.agg (ov m r la ln lc env f g h b0 b1 b2 b3 b4 b5 b6 b7 b8 b9 b10 false)) ∧ Below w.heap.size w w') := by
  have hlt := lt_of_block hC
  have HC1 : (w.alloc (.cells oz 60)).heap[C]? = some (.cells (cw b0 b1 b2 b3 b4 b5 b6 b7 b8 b9 b10 env f g h la ln lc m r) 97 (0, 0)) := (((Below.refl _ _).alloc (Nat.le_refl _) _).block C hlt).trans hC
  go_enter Try.func19, Try.ntmps19
  refine wp_seq_k fun K hK => ?_
  refine wp_region_list ?_
  refine Go.Great.wpList_allocTo rfl _ rfl (.pointer (some ⟨w.heap.size, 0, none⟩)) (.cells oz 60) (alloc60_run _ _ rfl w) ?_
  refine wpList_nil ?_
  refine hK _ _ ?_
  clear hK K
  refine wp_seq_k fun K hK => ?_
  refine reg_use (ops := ops19) (by kernel_rfl) ?_
  refine region19 C w.heap.size b0 b1 b2 b3 b4 b5 b6 b7 b8 b9 b10 env f g h la ln lc m r rfl rfl rfl HC1 (heap_alloc_new _ _) (by omega) ?_
  intro a hd ha
  refine hK _ _ ?_
  clear hK K
  have hr : ((w.alloc (.cells oz 60)).drew.setRow w.heap.size (ov m r la ln lc env f g h b0 b1 b2 b3 b4 b5 b6 b7 b8 b9 b10 false)).heap[w.heap.size]? = some (.cells (ov m r la ln lc env f g h b0 b1 b2 b3 b4 b5 b6 b7 b8 b9 b10 false) 60 (0, 0)) := setRow_heap _ _ _ _ _ _ (heap_alloc_new w _)
  have hb : Below w.heap.size w ((w.alloc (.cells oz 60)).drew.setRow w.heap.size (ov m r la ln lc env f g h b0 b1 b2 b3 b4 b5 b6 b7 b8 b9 b10 false)) := below_setRow (((Below.refl _ _).alloc (Nat.le_refl _) _).drew) (Nat.le_refl _) _
  generalize (w.alloc (.cells oz 60)).drew.setRow w.heap.size (ov m r la ln lc env f g h b0 b1 b2 b3 b4 b5 b6 b7 b8 b9 b10 false) = w2 at *
  refine wp_ret ?_
  refine bodyPost_ret (results_cell_row rfl _ _ w.heap.size 60 _ (0, 0) _ ha hr Try.underlying60 rfl (by rw [ov_size]; kernel_rfl)) hd ⟨rfl, hb⟩
end Go.Proofs.Ytbebfpmnekbldaa.op
