/-
  Options: small contracts.
-/
import Derived.Test.YtbebfpmnekbldaaOc

namespace Go.Proofs.Ytbebfpmnekbldaa.op
open Go.ChangeShapes Go.WideShapes Go.ChangeAt Go.RowKit Go.Deep
set_option linter.unusedVariables false
set_option linter.unusedSimpArgs false
/-- n cells, of which the first k are V's and the rest z. -/
def fillA (V : Nat → Value) (z : Value) (k n : Nat) : Array Value := (Array.range n).map (fun i => if i < k then V i else z)
theorem size_fillA (V : Nat → Value) (z : Value) (k n : Nat) : (fillA V z k n).size = n := by simp [fillA]
theorem get_fillA (V : Nat → Value) (z : Value) (k n i : Nat) (h : i < n) : (fillA V z k n)[i]? = some (if i < k then V i else z) := by
  simp [fillA, h]
theorem fillA_zero (V : Nat → Value) (z : Value) (n : Nat) : madeCells #[z] n = fillA V z 0 n := by
  simp [fillA, madeCells, Nat.mod_one]
theorem fillA_step (V : Nat → Value) (z : Value) (k n : Nat) (h : k < n) : (fillA V z k n).setIfInBounds k (V k) = fillA V z (k + 1) n := by
  apply Array.ext
  · simp [size_fillA]
  · intro i h1 h2
    have hi : i < n := by simpa [size_fillA] using h2
    rw [Array.getElem_setIfInBounds (by simpa [size_fillA] using hi)]
    simp only [fillA, Array.getElem_map, Array.getElem_range]
    by_cases hk : k = i
    · subst hk; simp
    · rw [if_neg hk]
      by_cases h3 : i < k
      · rw [if_pos h3, if_pos (by omega)]
      · rw [if_neg h3, if_neg (by omega)]
theorem fillA_full (V : Nat → Value) (z : Value) (n : Nat) : fillA V z n n = (Array.range n).map V := by
  apply Array.ext
  · simp [fillA]
  · intro i h1 h2
    have hi : i < n := by simpa using h2
    simp [fillA, hi]

/-- The cells of a slice: V i at place i; of an empty slice nothing is said. -/
def Cells (w : World) (a : Addr) (n : Nat) (V : Nat → Value) : Prop := (0 < n → a.spot = none) ∧ ∀ i, i < n → w.cell? ⟨a.block, a.off + i, none⟩ = some (V i)
theorem Cells.below {w w' : World} {a : Addr} {n : Nat} {V : Nat → Value} (h : Cells w a n V) (hb : Below w.heap.size w w') : Cells w' a n V := by
  refine ⟨h.1, fun i hi => ?_⟩
  have h1 := h.2 i hi
  have hlt : a.block < w.heap.size := block_lt_of_cell (a := ⟨a.block, a.off + i, none⟩) h1
  exact (hb.cell (p := ⟨a.block, a.off + i, none⟩) hlt).trans h1
theorem Cells.alloc {w : World} {a : Addr} {n : Nat} {V : Nat → Value} (h : Cells w a n V) (o : Obj) : Cells (w.alloc o) a n V := h.below ((Below.refl _ _).alloc (Nat.le_refl _) _)
theorem Cells.made (w : World) (n : Nat) (V : Nat → Value) (e : TypeId) : Cells (w.alloc (.cells ((Array.range n).map V) e)) ⟨w.heap.size, 0, none⟩ n V := by
  refine ⟨fun _ => rfl, fun i hi => ?_⟩
  have h := cell_of_row (w.alloc (.cells ((Array.range n).map V) e)) w.heap.size i _ _ _ (heap_alloc_new w _)
  simp only [Nat.zero_add]
  rw [h]
  simp [hi]


set_option maxRecDepth 100000
set_option maxHeartbeats 1000000
theorem info9 : (Try.prog.info? 9).map (fun i => (i.zero, i.size, i.bytes)) = some (some (.string ByteArray.empty), 1, 16) := by kernel_rfl

set_option maxHeartbeats 1000000 in
theorem clone17_main (w : World) (b off : Nat) (len cap : Nat) (V : Nat → ByteArray) (hl : len ≤ 1048576) (hc : Cells w ⟨b, off, none⟩ len fun i => Value.string (V i)) :
    Calls Try.prog 17 #[.slice (some ⟨b, off, none⟩) len cap] w fun e w' => e = .returned (.slice (some ⟨w.heap.size, 0, none⟩) len len) ∧
      w.alloc (.cells ((Array.range len).map fun i => Value.string (V i)) 9) = w' := by
  have HC := Lib.hid hc
  clear hc
  have hmk := run_make_row' (P := Try.prog) 25 9 (.string ByteArray.empty) 16 Try.underlying25 info9 rfl .i64 .i64 len (by omega) (by omega) w
  rw [fillA_zero (fun i => Value.string (V i))] at hmk
  have hnil := fun (w : World) (a : Option Addr) (n c : Nat) => Lib.run_eql_slice_nil (P := Try.prog) w 25 9 a n c 0 0 Try.underlying25
  go_enter Try.func17, Try.ntmps17
  go_wp2
  go_loopw [4] (fun i wr => ∃ k : Nat, k ≤ len ∧ i = .int .i64 k ∧ w.alloc (.cells (fillA (fun i => Value.string (V i)) (.string ByteArray.empty) k len) 9) = wr) (fun i _ => len - (intOf i).toNat)
  case atStart => exact ⟨0, by omega, rfl, rfl⟩
  case round =>
    obtain ⟨k, hk, rfl, rfl⟩ := hrel
    clear hmk
    by_cases hlt : k < len
    · have c1 : w.cell? ⟨b, off + k, none⟩ = some (Value.string (V k)) := HC.out.2 k hlt
      have hbl : b < w.heap.size := block_lt_of_cell (a := ⟨b, off + k, none⟩) c1
      have c2 : (fillA (fun i => Value.string (V i)) (.string ByteArray.empty) k len)[k]? = some (.string ByteArray.empty) := by rw [get_fillA _ _ _ _ _ hlt, if_neg (by omega)]
      have HF := Lib.hid (fillA_step (fun i => Value.string (V i)) (.string ByteArray.empty) k len hlt)
      go_wp2
      go_roundw
      case rel => exact ⟨k + 1, by omega, by go_num, by rw [← HF.out]⟩
      case measure => simp [intOf]; omega
    · obtain rfl : k = len := by omega
      rw [fillA_full]
      go_wp2
      go_ret
      exact ⟨rfl, rfl⟩

set_option maxHeartbeats 1000000 in
theorem clone17_zero (w : World) (x : Addr) (cap : Nat) :
    Calls Try.prog 17 #[.slice (some x) 0 cap] w fun e w' => e = .returned (.slice (some ⟨w.heap.size, 0, none⟩) 0 0) ∧ w.alloc (.cells #[] 9) = w' := by
  have hmk := run_make_row' (P := Try.prog) 25 9 (.string ByteArray.empty) 16 Try.underlying25 info9 rfl .i64 .i64 0 (by omega) (by omega) w
  rw [show madeCells #[.string ByteArray.empty] 0 = #[] by simp [madeCells], show ((0 : Nat) : Int) = 0 from rfl] at hmk
  have hnil := fun (w : World) (a : Option Addr) (n c : Nat) => Lib.run_eql_slice_nil (P := Try.prog) w 25 9 a n c 0 0 Try.underlying25
  go_enter Try.func17, Try.ntmps17
  go_wp2
  go_loopw [4] (fun i wr => i = .int .i64 0 ∧ w.alloc (.cells #[] 9) = wr) (fun i _ => 0)
  case atStart => exact ⟨rfl, rfl⟩
  case round =>
    obtain ⟨rfl, rfl⟩ := hrel
    clear hmk
    go_wp2
    go_ret
    exact ⟨rfl, rfl⟩

theorem clone17 (w : World) (x : Addr) (len cap : Nat) (V : Nat → ByteArray) (hl : len ≤ 1048576) (hc : Cells w x len fun i => Value.string (V i)) :
    Calls Try.prog 17 #[.slice (some x) len cap] w fun e w' => e = .returned (.slice (some ⟨w.heap.size, 0, none⟩) len len) ∧
      w.alloc (.cells ((Array.range len).map fun i => Value.string (V i)) 9) = w' := by
  by_cases h0 : len = 0
  · subst h0
    rw [show ((Array.range 0).map fun i => Value.string (V i)) = #[] by simp]
    exact clone17_zero w x cap
  · obtain ⟨b, off, sp⟩ := x
    obtain rfl : sp = none := hc.1 (by omega)
    exact clone17_main w b off len cap V hl hc

theorem clone17_nil (w : World) : Calls Try.prog 17 #[.slice none 0 0] w fun e w' => e = .returned (.slice none 0 0) ∧ w = w' := by
  have hnil := fun (w : World) (a : Option Addr) (n c : Nat) => Lib.run_eql_slice_nil (P := Try.prog) w 25 9 a n c 0 0 Try.underlying25
  go_enter Try.func17, Try.ntmps17
  go_wp2
  go_ret
  exact ⟨rfl, rfl⟩


theorem regexp18 (w : World) : Calls Try.prog 18 #[] w fun e w' => e = .returned (.pointer (some ⟨w.heap.size, 0, none⟩)) ∧ ∃ cs, cs[0]? = some (.string ByteArray.empty) ∧ w.alloc (.cells cs 109) = w' := by
  go_enter Try.func18, Try.ntmps18
  go_wp2
  go_ret
  exact ⟨rfl, _, rfl, rfl⟩
def bitB (n : Int) (i : Nat) : Bool := bits BinOp.and IntKind.u16 (n / 2 ^ i) 1 == 1
theorem bit16 (w : World) (n : Int) (i : Nat) (hn : 0 ≤ n) (hn2 : n < 65536) (hi : i ≤ 10) : Calls Try.prog 16 #[.int .u16 n, .int .u64 i] w fun e w' => e = .returned (.bool (bitB n i)) ∧ w = w' := by
  go_enter Try.func16, Try.ntmps16
  go_wp2
  go_ret
  exact ⟨rfl, rfl⟩
end Go.Proofs.Ytbebfpmnekbldaa.op
