/-
  Options: the same regexp.
-/
import Derived.Test.YtbebfpmnekbldaaOb

namespace Go.Proofs.Ytbebfpmnekbldaa.op
open Go.ChangeShapes Go.WideShapes Go.ChangeAt Go.RowKit Go.Deep
set_option linter.unusedVariables false
set_option linter.unusedSimpArgs false

set_option maxRecDepth 100000
set_option maxHeartbeats 1000000
/-- A fresh regexp, or none. -/
def Rx (w : World) (p : Option Addr) : Prop := p = none ∨ ∃ b, p = some ⟨b, 0, none⟩ ∧ w.cell? ⟨b, 0, none⟩ = some (.string ByteArray.empty)
theorem Rx.below {w w' : World} {p : Option Addr} (h : Rx w p) (hb : Below w.heap.size w w') : Rx w' p := by
  rcases h with h | ⟨b, h, hc⟩
  · exact .inl h
  · exact .inr ⟨b, h, (hb.cell (p := ⟨b, 0, none⟩) (block_lt_of_cell hc)).trans hc⟩
theorem str25 (w : World) (b : Nat) (s : ByteArray) (h : w.cell? ⟨b, 0, none⟩ = some (.string s)) : Calls Try.prog 25 #[.pointer (some ⟨b, 0, none⟩)] w fun e w' => e = .returned (.string s) ∧ w = w' := by
  go_enter Try.func25, Try.ntmps25
  go_wp2
  go_ret
  exact ⟨rfl, rfl⟩
theorem same22 (w : World) (p q : Option Addr) (hp : Rx w p) (hq : Rx w q) : Calls Try.prog 22 #[.pointer p, .pointer q] w fun e w' => e = .returned (.bool (p.isNone == q.isNone)) ∧ w = w' := by
  rcases hp with rfl | ⟨b, rfl, hb⟩
  · rcases hq with rfl | ⟨c, rfl, hc⟩
    · go_enter Try.func22, Try.ntmps22
      go_wp2
      go_ret
      exact ⟨rfl, rfl⟩
    · go_enter Try.func22, Try.ntmps22
      go_wp2
      go_ret
      exact ⟨rfl, rfl⟩
  · rcases hq with rfl | ⟨c, rfl, hc⟩
    · go_enter Try.func22, Try.ntmps22
      go_wp2
      go_ret
      exact ⟨rfl, rfl⟩
    · have hb' := Lib.hid hb
      have hc' := Lib.hid hc
      clear hb hc
      go_enter Try.func22, Try.ntmps22
      go_wp2_with (go_at_call 25; go_loud (first | (refine (str25 _ b _ hb'.out).mono ?_; rintro e w2 ⟨rfl, rfl⟩) | (refine (str25 _ c _ hc'.out).mono ?_; rintro e w2 ⟨rfl, rfl⟩)))
      go_ret
      exact ⟨by simp, rfl⟩
end Go.Proofs.Ytbebfpmnekbldaa.op
