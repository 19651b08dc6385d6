/-
  Declared symbols: recordDeclaredSymbol, whole.
-/
import Derived.Test.YtnokeaddghfggaaRc
import Derived.Test.YtnokeaddghfggaaRcA
import Derived.Test.YtnokeaddghfggaaRcB
import Derived.Test.YtnokeaddghfggaaRcC
import Derived.Test.YtnokeaddghfggaaRcE
import Derived.Test.YtnokeaddghfggaaLp
namespace Go.Proofs.Ytnokeaddghfggaa.ds
open Go.ChangeShapes Go.WideShapes Go.ChangeAt Go.RowKit Go.Deep Go.Proofs.Ytnokeaddghfggaa.mk
set_option linter.unusedVariables false
set_option linter.unusedSimpArgs false

/-- Is the entry top-level? -/
def tv (top : Bool) (lk : Nat) (K : Nat → Int) (ln : Nat) (N : Nat → Int) (lm : Nat) (Q : Nat → Int) (n i : Nat) : Bool := top || (hst K lk i && decide (mem Q lm n (nix N ln i) = i))
theorem mem_cases (Q : Nat → Int) (lm n j : Nat) (hQ : ∀ i, 0 ≤ Q i) : (∃ x : Nat, mem Q lm n j = x) ∨ mem Q lm n j = -1 := by
  unfold mem; split
  · exact .inl ⟨(Q j).toNat, by have := hQ j; omega⟩
  · exact .inr rfl
theorem rec16 (w : World) (D g C B MB SB PB n lk : Nat) (K : Nat → Int) (ln : Nat) (N : Nat → Int) (lm : Nat) (Q : Nat → Int) (m : Nat) (a : Option Addr) (c : Nat) (xs : List Value) (i : Nat) (top : Bool) (h : De w D g C B MB SB PB n lk K ln N lm Q m (.slice a m c) xs) (ht : C = B ↔ top = true) (hi : i < n) (hn : n ≤ 65537) (hm : m ≤ 1048576) (hQ : ∀ i, 0 ≤ Q i) :
    Calls Try.prog 16 #[.pointer (some ⟨g, 0, none⟩), .agg #[.int .u32 1, .int .u32 i]] w (RcP w D g C B MB SB PB n lk K ln N lm Q m xs i (tv top lk K ln N lm Q n i)) := by
  cases top with
  | true =>
    obtain rfl := ht.2 rfl
    exact rec_top w D g C MB SB PB n lk K ln N lm Q m a c xs i h hi hn hm
  | false =>
    have hne : C ≠ B := fun e => by have := ht.1 e; cases this
    cases hh : hst K lk i with
    | false =>
      have e : tv false lk K ln N lm Q n i = false := by simp [tv, hh]
      rw [e]; exact rec_A w D g C B MB SB PB n lk K ln N lm Q m a c xs i h hne hi hn hm hh
    | true =>
      rcases mem_cases Q lm n (nix N ln i) hQ with ⟨x, hx⟩ | hx
      · by_cases hxi : x = i
        · subst hxi
          have e : tv false lk K ln N lm Q n x = true := by simp [tv, hh, hx]
          rw [e]; exact rec_B w D g C B MB SB PB n lk K ln N lm Q m a c xs x h hne hi hn hm hh hx
        · have e : tv false lk K ln N lm Q n i = false := by simp [tv, hh, hx]; omega
          rw [e]; exact rec_C w D g C B MB SB PB n lk K ln N lm Q m a c xs i h hne hi hn hm hh x hx hxi
      · have e : tv false lk K ln N lm Q n i = false := by simp [tv, hh, hx]
        rw [e]; exact rec_E w D g C B MB SB PB n lk K ln N lm Q m a c xs i h hne hi hn hm hh hx
set_option maxRecDepth 100000 in
set_option maxHeartbeats 1000000 in
theorem rec9 (w : World) (D g C B MB SB PB n lk : Nat) (K : Nat → Int) (ln : Nat) (N : Nat → Int) (lm : Nat) (Q : Nat → Int) (m : Nat) (a : Option Addr) (c : Nat) (xs : List Value) (i : Nat) (top : Bool) (h : De w D g C B MB SB PB n lk K ln N lm Q m (.slice a m c) xs) (ht : C = B ↔ top = true) (hi : i < n) (hn : n ≤ 65537) (hm : m ≤ 1048576) (hQ : ∀ i, 0 ≤ Q i) :
    Calls Try.prog 9 #[.pointer (some ⟨g, 0, none⟩), .agg #[.int .u32 1, .int .u32 i]] w (RcP w D g C B MB SB PB n lk K ln N lm Q m xs i (tv top lk K ln N lm Q n i)) := by
  have HC := Lib.hid (rec16 (w.alloc (.cells #[.int .u32 1, .int .u32 i] 43)) D g C B MB SB PB n lk K ln N lm Q m a c xs i top (h.alloc _) ht hi hn hm hQ)
  clear h ht hQ
  go_enter Try.func9, Try.ntmps9
  go_wp2_with fail
  refine HC.out.mono ?_
  rintro e w' ⟨rfl, hP, hT⟩
  have HP := Lib.hid hP
  have HT := Lib.hid hT
  clear hP hT
  go_simp
  go_wp2_with fail
  go_end0
  exact ⟨rfl, HP.out, ((Touch.refl _ w).alloc _).trans HT.out⟩
end Go.Proofs.Ytnokeaddghfggaa.ds
