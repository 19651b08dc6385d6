/-
  The law's small parts, walked: the guards, the copies, the ranges, the errors' struct.
-/
import Derived.Test.YtfnicbfdfceagaaFmtLd
import Derived.OneCell
namespace Go.Proofs.YtfnicbfdfceagaaFmt.lg
open Go.ChangeShapes Go.WideShapes Go.ChangeAt Go.RowKit Go.Deep
set_option linter.unusedVariables false
set_option linter.unusedSimpArgs false
set_option maxRecDepth 100000
set_option maxHeartbeats 4000000
/-- n cells, of which the first k are V's and the rest z. -/
def fillA (V : Nat → Value) (z : Value) (k n : Nat) : Array Value := (Array.range n).map (fun i => if i < k then V i else z)
theorem size_fillA (V : Nat → Value) (z : Value) (k n : Nat) : (fillA V z k n).size = n := by simp [fillA]
theorem get_fillA (V : Nat → Value) (z : Value) (k n i : Nat) (h : i < n) : (fillA V z k n)[i]? = some (if i < k then V i else z) := by
  simp [fillA, h]
theorem fillA_zero (V : Nat → Value) (z : Value) (n : Nat) : madeCells #[z] n = fillA V z 0 n := by
  simp [fillA, madeCells, Nat.mod_one]
theorem fillA_step (V : Nat → Value) (z : Value) (k n : Nat) (h : k < n) : (fillA V z k n).setIfInBounds k (V k) = fillA V z (k + 1) n := by
  apply Array.ext
  · simp [size_fillA]
  · intro i h1 h2
    have hi : i < n := by simpa [size_fillA] using h2
    rw [Array.getElem_setIfInBounds (by simpa [size_fillA] using hi)]
    simp only [fillA, Array.getElem_map, Array.getElem_range]
    by_cases hk : k = i
    · subst hk; simp
    · rw [if_neg hk]
      by_cases h3 : i < k
      · rw [if_pos h3, if_pos (by omega)]
      · rw [if_neg h3, if_neg (by omega)]
theorem fillA_full (V : Nat → Value) (z : Value) (n : Nat) : fillA V z n n = (Array.range n).map V := by
  apply Array.ext
  · simp [fillA]
  · intro i h1 h2
    have hi : i < n := by simpa using h2
    simp [fillA, hi]

/-- The cells of a slice: V i at place i; of an empty slice nothing is said. -/
def Cells (w : World) (a : Addr) (n : Nat) (V : Nat → Value) : Prop := (0 < n → a.spot = none) ∧ ∀ i, i < n → w.cell? ⟨a.block, a.off + i, none⟩ = some (V i)
theorem Cells.below {w w' : World} {a : Addr} {n : Nat} {V : Nat → Value} (h : Cells w a n V) (hb : Below w.heap.size w w') : Cells w' a n V := by
  refine ⟨h.1, fun i hi => ?_⟩
  have h1 := h.2 i hi
  have hlt : a.block < w.heap.size := block_lt_of_cell (a := ⟨a.block, a.off + i, none⟩) h1
  exact (hb.cell (p := ⟨a.block, a.off + i, none⟩) hlt).trans h1
theorem Cells.alloc {w : World} {a : Addr} {n : Nat} {V : Nat → Value} (h : Cells w a n V) (o : Obj) : Cells (w.alloc o) a n V := h.below ((Below.refl _ _).alloc (Nat.le_refl _) _)
theorem Cells.made (w : World) (n : Nat) (V : Nat → Value) (e : TypeId) : Cells (w.alloc (.cells ((Array.range n).map V) e)) ⟨w.heap.size, 0, none⟩ n V := by
  refine ⟨fun _ => rfl, fun i hi => ?_⟩
  have h := cell_of_row (w.alloc (.cells ((Array.range n).map V) e)) w.heap.size i _ _ _ (heap_alloc_new w _)
  simp only [Nat.zero_add]
  rw [h]
  simp [hi]

theorem info21 : (Tryf.prog.info? 21).map (fun i => (i.zero, i.size, i.bytes)) = some (some (Value.int .i32 0), 1, 4) := by kernel_rfl

set_option maxHeartbeats 1000000 in
theorem clone7_main (w : World) (b off : Nat) (len cap : Nat) (V : Nat → Int) (hl : len ≤ 1048576) (hc : Cells w ⟨b, off, none⟩ len fun i => Value.int .i32 (V i)) :
    Calls Tryf.prog 7 #[.slice (some ⟨b, off, none⟩) len cap] w fun e w' => e = .returned (.slice (some ⟨w.heap.size, 0, none⟩) len len) ∧
      w.alloc (.cells ((Array.range len).map fun i => Value.int .i32 (V i)) 21) = w' := by
  have HC := Lib.hid hc
  clear hc
  have hmk := run_make_row' (P := Tryf.prog) 22 21 (Value.int .i32 0) 4 Tryf.underlying22 info21 rfl .i64 .i64 len (by omega) (by omega) w
  rw [fillA_zero (fun i => Value.int .i32 (V i))] at hmk
  have hnil := fun (w : World) (a : Option Addr) (n c : Nat) => Lib.run_eql_slice_nil (P := Tryf.prog) w 22 21 a n c 0 0 Tryf.underlying22
  go_enter Tryf.func7, Tryf.ntmps7
  go_wp2
  go_loopw [4] (fun i wr => ∃ k : Nat, k ≤ len ∧ i = .int .i64 k ∧ w.alloc (.cells (fillA (fun i => Value.int .i32 (V i)) (Value.int .i32 0) k len) 21) = wr) (fun i _ => len - (intOf i).toNat)
  case atStart => exact ⟨0, by omega, rfl, rfl⟩
  case round =>
    obtain ⟨k, hk, rfl, rfl⟩ := hrel
    clear hmk
    by_cases hlt : k < len
    · have c1 : w.cell? ⟨b, off + k, none⟩ = some (Value.int .i32 (V k)) := HC.out.2 k hlt
      have hbl : b < w.heap.size := block_lt_of_cell (a := ⟨b, off + k, none⟩) c1
      have c2 : (fillA (fun i => Value.int .i32 (V i)) (Value.int .i32 0) k len)[k]? = some (Value.int .i32 0) := by rw [get_fillA _ _ _ _ _ hlt, if_neg (by omega)]
      have HF := Lib.hid (fillA_step (fun i => Value.int .i32 (V i)) (Value.int .i32 0) k len hlt)
      go_wp2
      go_roundw
      case rel => exact ⟨k + 1, by omega, by go_num, by rw [← HF.out]⟩
      case measure => simp [intOf]; omega
    · obtain rfl : k = len := by omega
      rw [fillA_full]
      go_wp2
      go_ret
      exact ⟨rfl, rfl⟩

set_option maxHeartbeats 1000000 in
theorem clone7_zero (w : World) (x : Addr) (cap : Nat) :
    Calls Tryf.prog 7 #[.slice (some x) 0 cap] w fun e w' => e = .returned (.slice (some ⟨w.heap.size, 0, none⟩) 0 0) ∧ w.alloc (.cells #[] 21) = w' := by
  have hmk := run_make_row' (P := Tryf.prog) 22 21 (Value.int .i32 0) 4 Tryf.underlying22 info21 rfl .i64 .i64 0 (by omega) (by omega) w
  rw [show madeCells #[Value.int .i32 0] 0 = #[] by simp [madeCells], show ((0 : Nat) : Int) = 0 from rfl] at hmk
  have hnil := fun (w : World) (a : Option Addr) (n c : Nat) => Lib.run_eql_slice_nil (P := Tryf.prog) w 22 21 a n c 0 0 Tryf.underlying22
  go_enter Tryf.func7, Tryf.ntmps7
  go_wp2
  go_loopw [4] (fun i wr => i = .int .i64 0 ∧ w.alloc (.cells #[] 21) = wr) (fun i _ => 0)
  case atStart => exact ⟨rfl, rfl⟩
  case round =>
    obtain ⟨rfl, rfl⟩ := hrel
    clear hmk
    go_wp2
    go_ret
    exact ⟨rfl, rfl⟩

theorem clone7 (w : World) (x : Addr) (len cap : Nat) (V : Nat → Int) (hl : len ≤ 1048576) (hc : Cells w x len fun i => Value.int .i32 (V i)) :
    Calls Tryf.prog 7 #[.slice (some x) len cap] w fun e w' => e = .returned (.slice (some ⟨w.heap.size, 0, none⟩) len len) ∧
      w.alloc (.cells ((Array.range len).map fun i => Value.int .i32 (V i)) 21) = w' := by
  by_cases h0 : len = 0
  · subst h0
    rw [show ((Array.range 0).map fun i => Value.int .i32 (V i)) = #[] by simp]
    exact clone7_zero w x cap
  · obtain ⟨b, off, sp⟩ := x
    obtain rfl : sp = none := hc.1 (by omega)
    exact clone7_main w b off len cap V hl hc

theorem clone7_nil (w : World) : Calls Tryf.prog 7 #[.slice none 0 0] w fun e w' => e = .returned (.slice none 0 0) ∧ w = w' := by
  have hnil := fun (w : World) (a : Option Addr) (n c : Nat) => Lib.run_eql_slice_nil (P := Tryf.prog) w 22 21 a n c 0 0 Tryf.underlying22
  go_enter Tryf.func7, Tryf.ntmps7
  go_wp2
  go_ret
  exact ⟨rfl, rfl⟩

def YesNo (w : World) (Q : Prop) (e : Ending) (w' : World) : Prop := ∃ c : Bool, e = .returned (.bool c) ∧ (c = true → Q) ∧ Touch (fun _ => False) w w'
abbrev i32 (x : Int) : Value := .int .i32 x
theorem bytes4 (w : World) (s : ByteArray) (a b c d : Int) (g5 g6 : Option Addr) (n5 c5 n6 c6 : Nat) (h5 : n5 ≤ maxLen) (h6 : n6 ≤ maxLen) (hs : s.size ≤ maxLen) :
    Calls Tryf.prog 4 #[.string s, i32 a, i32 b, i32 c, i32 d, .slice g5 n5 c5, .slice g6 n6 c6] w (YesNo w (s.size + n5 + n6 ≤ 1048576)) := by
  have hm : maxLen = 9223372036854775807 := rfl
  go_enter Tryf.func4, Tryf.ntmps4
  by_cases k1 : s.size ≤ 1048576
  · have e1 : decide ((1048576 : Int) < (s.size : Int)) = false := by simp; omega
    by_cases k2 : n5 ≤ 1048576
    · have e2 : decide ((1048576 : Int) < (n5 : Int)) = false := by simp; omega
      by_cases k3 : s.size + n5 ≤ 1048576
      · have e3 : decide ((1048576 : Int) < (s.size : Int) + (n5 : Int)) = false := by simp; omega
        by_cases k4 : n6 ≤ 1048576
        · have e4 : decide ((1048576 : Int) < (n6 : Int)) = false := by simp; omega
          by_cases k5 : s.size + n5 + n6 ≤ 1048576
          · have e5 : decide ((1048576 : Int) < (s.size : Int) + (n5 : Int) + (n6 : Int)) = false := by simp; omega
            go_wp2_with fail
            go_ret
            exact ⟨true, rfl, fun _ => k5, Touch.refl _ _⟩
          · have e5 : decide ((1048576 : Int) < (s.size : Int) + (n5 : Int) + (n6 : Int)) = true := by simp; omega
            go_wp2_with fail
            go_ret
            exact ⟨false, rfl, (fun h => by cases h), Touch.refl _ _⟩
        · have e4 : decide ((1048576 : Int) < (n6 : Int)) = true := by simp; omega
          go_wp2_with fail
          go_ret
          exact ⟨false, rfl, (fun h => by cases h), Touch.refl _ _⟩
      · have e3 : decide ((1048576 : Int) < (s.size : Int) + (n5 : Int)) = true := by simp; omega
        go_wp2_with fail
        go_ret
        exact ⟨false, rfl, (fun h => by cases h), Touch.refl _ _⟩
    · have e2 : decide ((1048576 : Int) < (n5 : Int)) = true := by simp; omega
      go_wp2_with fail
      go_ret
      exact ⟨false, rfl, (fun h => by cases h), Touch.refl _ _⟩
  · have e1 : decide ((1048576 : Int) < (s.size : Int)) = true := by simp; omega
    go_wp2_with fail
    go_ret
    exact ⟨false, rfl, (fun h => by cases h), Touch.refl _ _⟩
theorem span5 (w : World) (l n : Int) (sz : Nat) (hl : -2147483648 ≤ l ∧ l ≤ 2147483647) (hn : -2147483648 ≤ n ∧ n ≤ 2147483647) : Calls Tryf.prog 5 #[i32 l, i32 n, i64 sz] w (YesNo w (0 ≤ l ∧ 0 ≤ n ∧ l + n ≤ sz)) := by
  go_enter Tryf.func5, Tryf.ntmps5
  by_cases k1 : l < 0
  · go_wp2_with fail
    go_ret
    exact ⟨false, rfl, (fun h => by cases h), Touch.refl _ _⟩
  · by_cases k2 : n < 0
    · go_wp2_with fail
      go_ret
      exact ⟨false, rfl, (fun h => by cases h), Touch.refl _ _⟩
    · by_cases k3 : l + n ≤ sz
      · have e3 : decide (l + n ≤ (sz : Int)) = true := by simpa using k3
        go_wp2_with fail
        go_ret
        exact ⟨true, rfl, (fun _ => by first | trivial | exact ⟨by omega, by omega, k3⟩ | (simp_all; done) | omega), Touch.refl _ _⟩
      · have e3 : decide (l + n ≤ (sz : Int)) = false := by simpa using k3
        go_wp2_with fail
        go_ret
        exact ⟨false, rfl, (fun h => by cases h), Touch.refl _ _⟩
theorem start6 (w : World) (l : Int) (sz : Nat) (hl : -2147483648 ≤ l ∧ l ≤ 2147483647) : Calls Tryf.prog 6 #[i32 l, i64 sz] w (YesNo w (0 ≤ l ∧ l ≤ sz)) := by
  go_enter Tryf.func6, Tryf.ntmps6
  by_cases k1 : 0 ≤ l
  · by_cases k3 : l ≤ sz
    · have e3 : decide (l ≤ (sz : Int)) = true := by simpa using k3
      go_wp2_with fail
      go_ret
      exact ⟨true, rfl, fun _ => ⟨k1, k3⟩, Touch.refl _ _⟩
    · have e3 : decide (l ≤ (sz : Int)) = false := by simpa using k3
      go_wp2_with fail
      go_ret
      exact ⟨false, rfl, (fun h => by cases h), Touch.refl _ _⟩
  · go_wp2_with fail
    go_ret
    exact ⟨false, rfl, (fun h => by cases h), Touch.refl _ _⟩
def RangeP (w : World) (l n : Int) (e : Ending) (w' : World) : Prop := e = .returned (.agg #[i32 l, i32 n]) ∧ Below w.heap.size w w'
theorem range8 (w : World) (l n : Int) : Calls Tryf.prog 8 #[i32 l, i32 n] w (RangeP w l n) := by
  go_enter Tryf.func8, Tryf.ntmps8
  go_wp2_with fail
  refine bodyPost_ret (v := .agg #[i32 l, i32 n]) (by simp [results, Tryf.results8, go_sem]) rfl ⟨rfl, ?_⟩
  exact (Below.refl _ w).alloc (Nat.le_refl _) _
def ErrsP (w : World) (a b c d : Int) (g : Addr) (n cap : Nat) (e : Ending) (w' : World) : Prop :=
  ∃ p, e = .returned (ptr p 0) ∧ w.heap.size ≤ p ∧ De w' p a b c d ∧ w'.cell? ⟨p, 6, none⟩ = some (.slice (some g) n cap) ∧ Below w.heap.size w w'
theorem errs9 (w : World) (a b c d : Int) (g : Addr) (n cap : Nat) : Calls Tryf.prog 9 #[.agg #[i32 a, i32 b], .agg #[i32 c, i32 d], .agg #[i32 0, i32 0], .slice (some g) n cap] w (ErrsP w a b c d g n cap) := by
  go_enter Tryf.func9, Tryf.ntmps9
  go_wp2_with fail
  refine bodyPost_ret (v := ptr (w.heap.size + 3) 0) (by simp [results, Tryf.results9, go_sem]) rfl ?_
  have h := heap_alloc_new (((w.alloc (.cells #[i32 a, i32 b] 32)).alloc (.cells #[i32 c, i32 d] 32)).alloc (.cells #[i32 0, i32 0] 32)) (.cells #[i32 a, i32 b, i32 c, i32 d, i32 0, i32 0, .slice (some g) n cap] 43)
  rw [show (((w.alloc (.cells #[i32 a, i32 b] 32)).alloc (.cells #[i32 c, i32 d] 32)).alloc (.cells #[i32 0, i32 0] 32)).heap.size = w.heap.size + 3 by simp] at h
  have e : ∀ q, _ := fun q => cell_of_row _ _ q _ _ _ h
  exact ⟨w.heap.size + 3, rfl, by omega, ⟨e 0, e 1, e 2, e 3, e 5⟩, e 6, ((((Below.refl _ w).alloc (Nat.le_refl _) _).alloc (by simp) _).alloc (by simp; omega) _).alloc (by simp; omega) _⟩
end Go.Proofs.YtfnicbfdfceagaaFmt.lg
