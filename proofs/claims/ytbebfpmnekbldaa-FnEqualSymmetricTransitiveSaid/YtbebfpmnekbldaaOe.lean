/-
  Options: the labels are compared.
-/
import Derived.Test.YtbebfpmnekbldaaOd
import Derived.RegionTactic

namespace Go.Proofs.Ytbebfpmnekbldaa.op
open Go.ChangeShapes Go.WideShapes Go.ChangeAt Go.RowKit Go.Deep
set_option linter.unusedVariables false
set_option linter.unusedSimpArgs false
/-- A slice of n elements, V i at place i; of an empty one nothing is said. -/
def Row (w : World) (a : Option Addr) (n : Nat) (V : Nat → Value) : Prop := 0 < n → ∃ b off, a = some ⟨b, off, none⟩ ∧ ∀ i, i < n → w.cell? ⟨b, off + i, none⟩ = some (V i)
theorem Row.below {w w' : World} {a : Option Addr} {n : Nat} {V : Nat → Value} (h : Row w a n V) (hb : Below w.heap.size w w') : Row w' a n V := by
  intro h0
  obtain ⟨b, off, rfl, hc⟩ := h h0
  refine ⟨b, off, rfl, fun i hi => ?_⟩
  have h1 := hc i hi
  exact (hb.cell (p := ⟨b, off + i, none⟩) (block_lt_of_cell h1)).trans h1
theorem Row.of_cells {w : World} {a : Addr} {n m : Nat} {V : Nat → Value} (hn : n ≤ m) (h : ∀ i, i < m → w.cell? (a.add i) = some (V i)) : Row w (some a) n V := by
  intro h0
  obtain ⟨b, off, spot⟩ := a
  have hspot : spot = none := by simpa [Addr.add] using World.cell?_spot (h 0 (by omega))
  subst hspot
  exact ⟨b, off, rfl, fun j hj => by rw [← Go.WideShapes.add_plain]; exact h j (by omega)⟩

set_option maxRecDepth 100000
set_option maxHeartbeats 1000000
theorem blist_inj {a b : ByteArray} (h : a.toList = b.toList) : a = b := by
  rw [ByteArray.toList_eq, ByteArray.toList_eq] at h
  exact ByteArray.ext (Array.toList_inj.1 h)
def SameL (n n' : Nat) (V V' : Nat → ByteArray) (c : Bool) : Prop := c = true ↔ n = n' ∧ ∀ i, i < n → V i = V' i
theorem eq23 (w : World) (a b : Option Addr) (n n' ca cb : Nat) (V V' : Nat → ByteArray) (hn : n ≤ 1048576) (h1 : Row w a n (fun i => .string (V i))) (h2 : Row w b n' (fun i => .string (V' i))) :
    Calls Try.prog 23 #[.slice a n ca, .slice b n' cb] w fun e w' => (∃ c : Bool, e = .returned (.bool c) ∧ SameL n n' V V' c) ∧ w' = w := by
  have H1 := Lib.hid h1
  have H2 := Lib.hid h2
  clear h1 h2
  by_cases e : n = n'
  · subst e
    have en : ((n : Int) != (n : Int)) = false := by simp
    go_enter Try.func23, Try.ntmps23
    go_wp2_with fail
    go_loopw [5, 6, 14] (fun i x c wr => ∃ k : Nat, k ≤ n ∧ c = .int .i64 k ∧ (∀ j, j < k → V j = V' j) ∧ wr = w) (fun i x c _ => n - (intOf c).toNat)
    case atStart => exact ⟨0, by omega, rfl, fun j hj => by omega, rfl⟩
    case round =>
      obtain ⟨k, hk, rfl, hp, rfl⟩ := hrel
      have HP := Lib.hid hp
      clear hp
      by_cases hlt : k < n
      · obtain ⟨b1, o1, e1, hc1⟩ := H1.out (by omega)
        obtain ⟨b2, o2, e2, hc2⟩ := H2.out (by omega)
        cases e1
        cases e2
        have c1 := hc1 k hlt
        have c2 := hc2 k hlt
        clear hc1 hc2
        simp only [] at c1 c2
        by_cases ev : V k = V' k
        · have EV := Lib.hid ev
          rw [← ev] at c2
          have ex2 : (V k == V k) = true := by rw [beq_toListBytes]; simp
          have ex : (V k != V k) = false := by rw [bne, ex2]; rfl
          clear ev
          generalize V k = x at c1 c2 ex ex2
          go_wp2_with fail
          go_roundw
          case rel => exact ⟨k + 1, by omega, by go_num, fun j hj => by
            rcases Nat.lt_succ_iff_lt_or_eq.1 hj with h | rfl
            · exact HP.out j h
            · exact EV.out, by first | rfl | trivial⟩
          case measure => simp [intOf]; omega
        · have EV := Lib.hid ev
          have ex3 : ((V k).toList == (V' k).toList) = false := by simpa using fun h => ev (blist_inj h)
          have ex2 : (V k == V' k) = false := by rw [beq_toListBytes]; exact ex3
          have ex : (V k != V' k) = true := by rw [bne, ex2]; rfl
          have ex4 : ((V k).toList != (V' k).toList) = true := by rw [bne, ex3]; rfl
          clear ev
          generalize hx : V k = x at c1 ex ex2 ex3 ex4
          generalize hy : V' k = y at c2 ex ex2 ex3 ex4
          have HXY := Lib.hid (And.intro hx hy)
          clear hx hy
          go_wp2_with fail
          go_ret
          exact ⟨⟨false, rfl, by
            unfold SameL
            simp only [Bool.false_eq_true, false_iff]
            rintro ⟨_, h⟩
            exact EV.out (h k hlt)⟩, rfl⟩
      · obtain rfl : k = n := by omega
        go_wp2_with fail
        go_ret
        exact ⟨⟨true, rfl, by unfold SameL; simp only [true_iff]; exact ⟨by first | rfl | trivial, fun j hj => HP.out j hj⟩⟩, rfl⟩
  · have en : ((n : Int) != (n' : Int)) = true := by simp; omega
    have E := Lib.hid e
    clear e
    go_enter Try.func23, Try.ntmps23
    go_wp2_with fail
    go_ret
    exact ⟨⟨false, rfl, by unfold SameL; simp only [Bool.false_eq_true, false_iff]; exact fun h => E.out h.1⟩, rfl⟩
theorem sameL_inj {n n' : Nat} {V V' : Nat → ByteArray} {c d : Bool} (h : SameL n n' V V' c) (k : SameL n n' V V' d) : c = d := by
  have e : (c = true) ↔ (d = true) := h.trans k.symm
  cases c <;> cases d <;> simp_all
theorem eq23c (w : World) (a b : Option Addr) (n n' ca cb : Nat) (V V' : Nat → ByteArray) (c : Bool) (hc : SameL n n' V V' c) (hn : n ≤ 1048576) (h1 : Row w a n (fun i => .string (V i))) (h2 : Row w b n' (fun i => .string (V' i))) :
    Calls Try.prog 23 #[.slice a n ca, .slice b n' cb] w fun e w' => e = .returned (.bool c) ∧ w' = w := by
  refine (eq23 w a b n n' ca cb V V' hn h1 h2).mono ?_
  rintro e w' ⟨⟨c', he, hc'⟩, hw⟩
  rw [sameL_inj hc' hc] at he
  exact ⟨he, hw⟩
end Go.Proofs.Ytbebfpmnekbldaa.op
