/-
  Options: the jsx expressions.
-/
import Derived.Test.YtbebfpmnekbldaaOe

namespace Go.Proofs.Ytbebfpmnekbldaa.op
open Go.ChangeShapes Go.WideShapes Go.ChangeAt Go.RowKit Go.Deep
set_option linter.unusedVariables false
set_option linter.unusedSimpArgs false

set_option maxRecDepth 100000
set_option maxHeartbeats 1000000
def zj : Array Value := #[.nilIface, .slice none 0 0, .int .u32 0]
theorem jsx24 (w : World) : Calls Try.prog 24 #[.agg zj, .agg zj] w fun e w' => e = .returned (.bool true) ∧ w' = (w.alloc (.cells zj 30)).alloc (.cells zj 30) := by
  unfold zj
  have hA : ((w.alloc (.cells #[.nilIface, .slice none 0 0, .int .u32 0] 30)).alloc (.cells #[.nilIface, .slice none 0 0, .int .u32 0] 30)).heap[w.heap.size]? = some (.cells #[.nilIface, .slice none 0 0, .int .u32 0] 30 (0, 0)) := heap_alloc2_old ..
  go_enter Try.func24, Try.ntmps24
  go_wp2_with (go_at_call 23; go_loud (refine (eq23 _ none none 0 0 0 0 (fun _ => ByteArray.empty) (fun _ => ByteArray.empty) (by omega) (fun h => by omega) (fun h => by omega)).mono ?_; rintro e w2 ⟨⟨c, rfl, hc⟩, rfl⟩; obtain rfl : c = true := hc.2 ⟨rfl, fun j hj => by omega⟩; clear hc))
  go_ret
  exact ⟨rfl, rfl⟩
end Go.Proofs.Ytbebfpmnekbldaa.op
