/-
  What canMergeSymbols computes, as a plain function, and the contract of the function.
-/
import Derived.Test.YtnemldibhdphoaaRows
import Derived.WalkKit
import Derived.ProofKit
import Derived.OpenShut
import Derived.ShutString
import Derived.Laws.Tables
import Derived.Laws.Rows
import Derived.WalkSmall
import Derived.Lib.Hide
import Derived.WalkLawsBesides
namespace Go.Proofs.Ytnemldibhdphoaa.cms
open Go.ChangeShapes Go.WideShapes Go.ChangeAt Go.RowKit
set_option linter.unusedVariables false

def hf (k : Int) : Bool := k == 1 || k == 2 || k == 4
theorem hoisted (k : Int) (v : Bool) (hv : (k == 1 || k == 2) = v) (w : World) :
    Calls Try.prog 8 #[.int .u8 k] w fun e w' => e = .returned (.bool v) ∧ w = w' := by
  subst hv
  by_cases h1 : k = 1
  · subst h1
    go_enter Try.func8, Try.ntmps8
    go_wp2
    go_ret
    exact ⟨rfl, rfl⟩
  · have h1' : (k == 1) = false := by simpa using h1
    go_enter Try.func8, Try.ntmps8
    go_wp2
    go_ret
    refine ⟨?_, rfl⟩
    simp [h1]

theorem hof (k : Int) (v : Bool) (hv : hf k = v) (w : World) :
    Calls Try.prog 7 #[.int .u8 k] w fun e w' => e = .returned (.bool v) ∧ w = w' := by
  unfold hf at hv
  by_cases h1 : (k == 1 || k == 2) = true
  · obtain rfl : v = true := by rw [← hv, h1]; rfl
    have H := Lib.hid (hoisted k true h1)
    clear hv h1
    go_enter Try.func7, Try.ntmps7
    go_wp2_with (go_at_call 8; refine (H.out _).mono ?_; rintro e w' ⟨rfl, rfl⟩)
    go_ret
    exact ⟨rfl, rfl⟩
  · have h2 : (k == 1 || k == 2) = false := by simpa using h1
    have H := Lib.hid (hoisted k false h2)
    rw [h2, Bool.false_or] at hv
    subst hv
    clear h1 h2
    go_enter Try.func7, Try.ntmps7
    go_wp2_with (go_at_call 8; refine (H.out _).mono ?_; rintro e w' ⟨rfl, rfl⟩)
    go_ret
    exact ⟨rfl, rfl⟩

def cm (ts : Bool) (sc ex nw : Int) : Int :=
  if ex = 0 then 1 else if ts = true ∧ ex = 21 then 1 else if nw = 19 ∧ ex = 19 then 3 else if nw = 19 ∧ ex = 20 then 1
  else if nw = 20 ∧ (ex = 20 ∨ ex = 2 ∨ ex = 4 ∨ ex = 19 ∨ ex = 6) then 3
  else if (nw = 1 ∨ nw = 2 ∨ nw = 4) ∧ (ex = 1 ∨ ex = 2 ∨ ex = 4) ∧ (sc = 6 ∨ sc = 8 ∨ sc = 7 ∨ (nw = ex ∧ (nw = 1 ∨ nw = 2))) then 1
  else if (ex = 10 ∧ nw = 11) ∨ (ex = 11 ∧ nw = 10) then 4
  else if (ex = 15 ∧ nw = 16) ∨ (ex = 16 ∧ nw = 15) then 5
  else if ex = 3 ∧ nw = 1 then 1 else if ex = 5 ∧ nw = 1 then 3 else if ex = 5 ∧ nw ≠ 1 then 2 else 0

end Go.Proofs.Ytnemldibhdphoaa.cms
