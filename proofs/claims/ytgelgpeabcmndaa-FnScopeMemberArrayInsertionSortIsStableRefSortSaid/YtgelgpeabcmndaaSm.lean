/-
  Contracts of the helpers that the scope member statements share: the clones, zzBuild, zzKey, Less.
-/
import Derived.Test.YtgelgpeabcmndaaRows
import Derived.WalkKit
import Derived.ProofKit
import Derived.OpenShut
import Derived.ShutString
import Derived.Lib.Hide
import Derived.WalkLawsBesides
import Derived.Deep.OwnRows
import Derived.Laws.Rows
import Derived.OneCell
import Derived.Below
import Derived.WalkSpells
import Derived.RegionTactic
import Derived.BigRegion
import Derived.ChangeAlike
import Derived.Deep.RegionHeld3
import Derived.Deep.DeepCutAuto
import Derived.Laws.BitsAllLaws
namespace Go.Proofs.Ytgelgpeabcmndaa.sm
open Go.ChangeShapes Go.WideShapes Go.ChangeAt Go.RowKit Go.Deep
set_option linter.unusedVariables false

/-- n cells, of which the first k are V's and the rest z. -/
def fillA (V : Nat → Value) (z : Value) (k n : Nat) : Array Value := (Array.range n).map (fun i => if i < k then V i else z)
theorem size_fillA (V : Nat → Value) (z : Value) (k n : Nat) : (fillA V z k n).size = n := by simp [fillA]
theorem get_fillA (V : Nat → Value) (z : Value) (k n i : Nat) (h : i < n) : (fillA V z k n)[i]? = some (if i < k then V i else z) := by
  simp [fillA, h]
theorem fillA_zero (V : Nat → Value) (z : Value) (n : Nat) : madeCells #[z] n = fillA V z 0 n := by
  simp [fillA, madeCells, Nat.mod_one]
theorem fillA_step (V : Nat → Value) (z : Value) (k n : Nat) (h : k < n) : (fillA V z k n).setIfInBounds k (V k) = fillA V z (k + 1) n := by
  apply Array.ext
  · simp [size_fillA]
  · intro i h1 h2
    have hi : i < n := by simpa [size_fillA] using h2
    rw [Array.getElem_setIfInBounds (by simpa [size_fillA] using hi)]
    simp only [fillA, Array.getElem_map, Array.getElem_range]
    by_cases hk : k = i
    · subst hk; simp
    · rw [if_neg hk]
      by_cases h3 : i < k
      · rw [if_pos h3, if_pos (by omega)]
      · rw [if_neg h3, if_neg (by omega)]
theorem fillA_full (V : Nat → Value) (z : Value) (n : Nat) : fillA V z n n = (Array.range n).map V := by
  apply Array.ext
  · simp [fillA]
  · intro i h1 h2
    have hi : i < n := by simpa using h2
    simp [fillA, hi]

/-- The cells of a slice: V i at place i; of an empty slice nothing is said. -/
def Cells (w : World) (a : Addr) (n : Nat) (V : Nat → Value) : Prop := (0 < n → a.spot = none) ∧ ∀ i, i < n → w.cell? ⟨a.block, a.off + i, none⟩ = some (V i)
theorem Cells.below {w w' : World} {a : Addr} {n : Nat} {V : Nat → Value} (h : Cells w a n V) (hb : Below w.heap.size w w') : Cells w' a n V := by
  refine ⟨h.1, fun i hi => ?_⟩
  have h1 := h.2 i hi
  have hlt : a.block < w.heap.size := block_lt_of_cell (a := ⟨a.block, a.off + i, none⟩) h1
  exact (hb.cell (p := ⟨a.block, a.off + i, none⟩) hlt).trans h1
theorem Cells.alloc {w : World} {a : Addr} {n : Nat} {V : Nat → Value} (h : Cells w a n V) (o : Obj) : Cells (w.alloc o) a n V := h.below ((Below.refl _ _).alloc (Nat.le_refl _) _)
theorem Cells.made (w : World) (n : Nat) (V : Nat → Value) (e : TypeId) : Cells (w.alloc (.cells ((Array.range n).map V) e)) ⟨w.heap.size, 0, none⟩ n V := by
  refine ⟨fun _ => rfl, fun i hi => ?_⟩
  have h := cell_of_row (w.alloc (.cells ((Array.range n).map V) e)) w.heap.size i _ _ _ (heap_alloc_new w _)
  simp only [Nat.zero_add]
  rw [h]
  simp [hi]

theorem info32 : (Try.prog.info? 32).map (fun i => (i.zero, i.size, i.bytes)) = some (some (Value.int .u32 0), 1, 4) := by kernel_rfl

set_option maxHeartbeats 1000000 in
theorem cloneU_main (w : World) (b off : Nat) (len cap : Nat) (V : Nat → Int) (hl : len ≤ 1048576) (hc : Cells w ⟨b, off, none⟩ len fun i => Value.int .u32 (V i)) :
    Calls Try.prog 6 #[.slice (some ⟨b, off, none⟩) len cap] w fun e w' => e = .returned (.slice (some ⟨w.heap.size, 0, none⟩) len len) ∧
      w.alloc (.cells ((Array.range len).map fun i => Value.int .u32 (V i)) 32) = w' := by
  have HC := Lib.hid hc
  clear hc
  have hmk := run_make_row' (P := Try.prog) 22 32 (Value.int .u32 0) 4 Try.underlying22 info32 rfl .i64 .i64 len (by omega) (by omega) w
  rw [fillA_zero (fun i => Value.int .u32 (V i))] at hmk
  have hnil := fun (w : World) (a : Option Addr) (n c : Nat) => Lib.run_eql_slice_nil (P := Try.prog) w 22 32 a n c 0 0 Try.underlying22
  go_enter Try.func6, Try.ntmps6
  go_wp2
  go_loopw [4] (fun i wr => ∃ k : Nat, k ≤ len ∧ i = .int .i64 k ∧ w.alloc (.cells (fillA (fun i => Value.int .u32 (V i)) (Value.int .u32 0) k len) 32) = wr) (fun i _ => len - (intOf i).toNat)
  case atStart => exact ⟨0, by omega, rfl, rfl⟩
  case round =>
    obtain ⟨k, hk, rfl, rfl⟩ := hrel
    clear hmk
    by_cases hlt : k < len
    · have c1 : w.cell? ⟨b, off + k, none⟩ = some (Value.int .u32 (V k)) := HC.out.2 k hlt
      have hbl : b < w.heap.size := block_lt_of_cell (a := ⟨b, off + k, none⟩) c1
      have c2 : (fillA (fun i => Value.int .u32 (V i)) (Value.int .u32 0) k len)[k]? = some (Value.int .u32 0) := by rw [get_fillA _ _ _ _ _ hlt, if_neg (by omega)]
      have HF := Lib.hid (fillA_step (fun i => Value.int .u32 (V i)) (Value.int .u32 0) k len hlt)
      go_wp2
      go_roundw
      case rel => exact ⟨k + 1, by omega, by go_num, by rw [← HF.out]⟩
      case measure => simp [intOf]; omega
    · obtain rfl : k = len := by omega
      rw [fillA_full]
      go_wp2
      go_ret
      exact ⟨rfl, rfl⟩

set_option maxHeartbeats 1000000 in
theorem cloneU_zero (w : World) (x : Addr) (cap : Nat) :
    Calls Try.prog 6 #[.slice (some x) 0 cap] w fun e w' => e = .returned (.slice (some ⟨w.heap.size, 0, none⟩) 0 0) ∧ w.alloc (.cells #[] 32) = w' := by
  have hmk := run_make_row' (P := Try.prog) 22 32 (Value.int .u32 0) 4 Try.underlying22 info32 rfl .i64 .i64 0 (by omega) (by omega) w
  rw [show madeCells #[Value.int .u32 0] 0 = #[] by simp [madeCells], show ((0 : Nat) : Int) = 0 from rfl] at hmk
  have hnil := fun (w : World) (a : Option Addr) (n c : Nat) => Lib.run_eql_slice_nil (P := Try.prog) w 22 32 a n c 0 0 Try.underlying22
  go_enter Try.func6, Try.ntmps6
  go_wp2
  go_loopw [4] (fun i wr => i = .int .i64 0 ∧ w.alloc (.cells #[] 32) = wr) (fun i _ => 0)
  case atStart => exact ⟨rfl, rfl⟩
  case round =>
    obtain ⟨rfl, rfl⟩ := hrel
    clear hmk
    go_wp2
    go_ret
    exact ⟨rfl, rfl⟩

theorem cloneU (w : World) (x : Addr) (len cap : Nat) (V : Nat → Int) (hl : len ≤ 1048576) (hc : Cells w x len fun i => Value.int .u32 (V i)) :
    Calls Try.prog 6 #[.slice (some x) len cap] w fun e w' => e = .returned (.slice (some ⟨w.heap.size, 0, none⟩) len len) ∧
      w.alloc (.cells ((Array.range len).map fun i => Value.int .u32 (V i)) 32) = w' := by
  by_cases h0 : len = 0
  · subst h0
    rw [show ((Array.range 0).map fun i => Value.int .u32 (V i)) = #[] by simp]
    exact cloneU_zero w x cap
  · obtain ⟨b, off, sp⟩ := x
    obtain rfl : sp = none := hc.1 (by omega)
    exact cloneU_main w b off len cap V hl hc

theorem cloneU_nil (w : World) : Calls Try.prog 6 #[.slice none 0 0] w fun e w' => e = .returned (.slice none 0 0) ∧ w = w' := by
  have hnil := fun (w : World) (a : Option Addr) (n c : Nat) => Lib.run_eql_slice_nil (P := Try.prog) w 22 32 a n c 0 0 Try.underlying22
  go_enter Try.func6, Try.ntmps6
  go_wp2
  go_ret
  exact ⟨rfl, rfl⟩

theorem info21 : (Try.prog.info? 21).map (fun i => (i.zero, i.size, i.bytes)) = some (some (Value.int .i32 0), 1, 4) := by kernel_rfl

set_option maxHeartbeats 1000000 in
theorem cloneI_main (w : World) (b off : Nat) (len cap : Nat) (V : Nat → Int) (hl : len ≤ 1048576) (hc : Cells w ⟨b, off, none⟩ len fun i => Value.int .i32 (V i)) :
    Calls Try.prog 7 #[.slice (some ⟨b, off, none⟩) len cap] w fun e w' => e = .returned (.slice (some ⟨w.heap.size, 0, none⟩) len len) ∧
      w.alloc (.cells ((Array.range len).map fun i => Value.int .i32 (V i)) 21) = w' := by
  have HC := Lib.hid hc
  clear hc
  have hmk := run_make_row' (P := Try.prog) 23 21 (Value.int .i32 0) 4 Try.underlying23 info21 rfl .i64 .i64 len (by omega) (by omega) w
  rw [fillA_zero (fun i => Value.int .i32 (V i))] at hmk
  have hnil := fun (w : World) (a : Option Addr) (n c : Nat) => Lib.run_eql_slice_nil (P := Try.prog) w 23 21 a n c 0 0 Try.underlying23
  go_enter Try.func7, Try.ntmps7
  go_wp2
  go_loopw [4] (fun i wr => ∃ k : Nat, k ≤ len ∧ i = .int .i64 k ∧ w.alloc (.cells (fillA (fun i => Value.int .i32 (V i)) (Value.int .i32 0) k len) 21) = wr) (fun i _ => len - (intOf i).toNat)
  case atStart => exact ⟨0, by omega, rfl, rfl⟩
  case round =>
    obtain ⟨k, hk, rfl, rfl⟩ := hrel
    clear hmk
    by_cases hlt : k < len
    · have c1 : w.cell? ⟨b, off + k, none⟩ = some (Value.int .i32 (V k)) := HC.out.2 k hlt
      have hbl : b < w.heap.size := block_lt_of_cell (a := ⟨b, off + k, none⟩) c1
      have c2 : (fillA (fun i => Value.int .i32 (V i)) (Value.int .i32 0) k len)[k]? = some (Value.int .i32 0) := by rw [get_fillA _ _ _ _ _ hlt, if_neg (by omega)]
      have HF := Lib.hid (fillA_step (fun i => Value.int .i32 (V i)) (Value.int .i32 0) k len hlt)
      go_wp2
      go_roundw
      case rel => exact ⟨k + 1, by omega, by go_num, by rw [← HF.out]⟩
      case measure => simp [intOf]; omega
    · obtain rfl : k = len := by omega
      rw [fillA_full]
      go_wp2
      go_ret
      exact ⟨rfl, rfl⟩

set_option maxHeartbeats 1000000 in
theorem cloneI_zero (w : World) (x : Addr) (cap : Nat) :
    Calls Try.prog 7 #[.slice (some x) 0 cap] w fun e w' => e = .returned (.slice (some ⟨w.heap.size, 0, none⟩) 0 0) ∧ w.alloc (.cells #[] 21) = w' := by
  have hmk := run_make_row' (P := Try.prog) 23 21 (Value.int .i32 0) 4 Try.underlying23 info21 rfl .i64 .i64 0 (by omega) (by omega) w
  rw [show madeCells #[Value.int .i32 0] 0 = #[] by simp [madeCells], show ((0 : Nat) : Int) = 0 from rfl] at hmk
  have hnil := fun (w : World) (a : Option Addr) (n c : Nat) => Lib.run_eql_slice_nil (P := Try.prog) w 23 21 a n c 0 0 Try.underlying23
  go_enter Try.func7, Try.ntmps7
  go_wp2
  go_loopw [4] (fun i wr => i = .int .i64 0 ∧ w.alloc (.cells #[] 21) = wr) (fun i _ => 0)
  case atStart => exact ⟨rfl, rfl⟩
  case round =>
    obtain ⟨rfl, rfl⟩ := hrel
    clear hmk
    go_wp2
    go_ret
    exact ⟨rfl, rfl⟩

theorem cloneI (w : World) (x : Addr) (len cap : Nat) (V : Nat → Int) (hl : len ≤ 1048576) (hc : Cells w x len fun i => Value.int .i32 (V i)) :
    Calls Try.prog 7 #[.slice (some x) len cap] w fun e w' => e = .returned (.slice (some ⟨w.heap.size, 0, none⟩) len len) ∧
      w.alloc (.cells ((Array.range len).map fun i => Value.int .i32 (V i)) 21) = w' := by
  by_cases h0 : len = 0
  · subst h0
    rw [show ((Array.range 0).map fun i => Value.int .i32 (V i)) = #[] by simp]
    exact cloneI_zero w x cap
  · obtain ⟨b, off, sp⟩ := x
    obtain rfl : sp = none := hc.1 (by omega)
    exact cloneI_main w b off len cap V hl hc

theorem cloneI_nil (w : World) : Calls Try.prog 7 #[.slice none 0 0] w fun e w' => e = .returned (.slice none 0 0) ∧ w = w' := by
  have hnil := fun (w : World) (a : Option Addr) (n c : Nat) => Lib.run_eql_slice_nil (P := Try.prog) w 23 21 a n c 0 0 Try.underlying23
  go_enter Try.func7, Try.ntmps7
  go_wp2
  go_ret
  exact ⟨rfl, rfl⟩

/-- Block g is a row of N cells of element type T, cell p holding G p; it may be written. -/
def RowG (w : World) (g : Nat) (T : TypeId) (N : Nat) (G : Nat → Value) : Prop :=
  ∃ arr, w.heap[g]? = some (.cells arr T (0, 0)) ∧ arr.size = N ∧ ∀ p, p < N → arr[p]? = some (G p)
section
variable {w w' : World} {g N : Nat} {T : TypeId} {G : Nat → Value}
theorem RowG.lt (h : RowG w g T N G) : g < w.heap.size := by
  obtain ⟨arr, h1, _, _⟩ := h
  exact lt_of_block h1
theorem RowG.cell (h : RowG w g T N G) {p : Nat} (hp : p < N) : w.cell? ⟨g, p, none⟩ = some (G p) := by
  obtain ⟨arr, h1, _, h3⟩ := h
  rw [cell_of_row w g p _ _ _ h1]
  exact h3 p hp
theorem RowG.frozen (h : RowG w g T N G) (p : Nat) : w.frozen? ⟨g, p, none⟩ = false := by
  obtain ⟨arr, h1, _, _⟩ := h
  exact frozen_of_row w g p _ _ h1
theorem RowG.set (h : RowG w g T N G) (p : Nat) (v : Value) : RowG (w.setCell ⟨g, p, none⟩ v) g T N (fun q => if q = p then v else G q) := by
  obtain ⟨arr, h1, h2, h3⟩ := h
  refine ⟨_, heap_setCell_same w g p arr T v h1, by simpa using h2, fun q hq => ?_⟩
  by_cases e : p = q
  · subst e
    rw [Array.getElem?_setIfInBounds_self_of_lt (by omega)]
    simp
  · rw [Array.getElem?_setIfInBounds_ne e]
    show arr[q]? = some (if q = p then v else G q)
    rw [if_neg (by omega)]
    exact h3 q hq
theorem RowG.ext {G' : Nat → Value} (h : RowG w g T N G) (e : ∀ p, p < N → G p = G' p) : RowG w g T N G' := by
  obtain ⟨arr, h1, h2, h3⟩ := h
  exact ⟨arr, h1, h2, fun p hp => by rw [h3 p hp, e p hp]⟩
theorem RowG.drew (h : RowG w g T N G) : RowG w.drew g T N G := h
theorem RowG.of_block (h : RowG w g T N G) (e : w'.heap[g]? = w.heap[g]?) : RowG w' g T N G := by
  obtain ⟨arr, h1, h2, h3⟩ := h
  exact ⟨arr, e.trans h1, h2, h3⟩
theorem RowG.below {B : Nat} (h : RowG w g T N G) (hb : Below B w w') (hg : g < B) : RowG w' g T N G := h.of_block (hb.block g hg)
theorem RowG.alloc (h : RowG w g T N G) (o : Obj) : RowG (w.alloc o) g T N G := h.below ((Below.refl _ _).alloc (Nat.le_refl _) o) h.lt
theorem RowG.other (h : RowG w g T N G) (a : Addr) (v : Value) (hg : g ≠ a.block) : RowG (w.setCell a v) g T N G := h.of_block (Below.heap_setCell _ _ _ _ hg)
end
theorem RowG.made (w : World) (T : TypeId) (arr : Array Value) (G : Nat → Value) (h : ∀ p, p < arr.size → arr[p]? = some (G p)) : RowG (w.alloc (.cells arr T)) w.heap.size T arr.size G :=
  ⟨arr, heap_alloc_new w _, rfl, h⟩

/-- Nothing but block g has changed; no block has gone or come. -/
def Only (g : Nat) (w w' : World) : Prop := w'.heap.size = w.heap.size ∧ (∀ k, k ≠ g → w'.heap[k]? = w.heap[k]?) ∧ ∀ B, B ≤ g → Below B w w'
theorem Only.refl (g : Nat) (w : World) : Only g w w := ⟨rfl, fun _ _ => rfl, fun B _ => Below.refl B w⟩
theorem Only.drew {g : Nat} {w w' : World} (h : Only g w w') : Only g w w'.drew := ⟨h.1, h.2.1, fun B hB => (h.2.2 B hB).drew⟩
theorem Only.set {g : Nat} {w w' : World} (h : Only g w w') (p : Nat) (v : Value) : Only g w (w'.setCell ⟨g, p, none⟩ v) :=
  ⟨by rw [← h.1]; simp, fun k hk => (Below.heap_setCell _ _ _ _ (by exact hk)).trans (h.2.1 k hk), fun B hB => (h.2.2 B hB).setCell (by exact hB) _⟩
theorem Only.row {g g' N : Nat} {T : TypeId} {G : Nat → Value} {w w' : World} (h : Only g w w') (r : RowG w g' T N G) (hg : g' ≠ g) : RowG w' g' T N G := r.of_block (h.2.1 g' hg)
theorem Only.trans {g : Nat} {a b c : World} (h : Only g a b) (k : Only g b c) : Only g a c := ⟨k.1.trans h.1, fun i hi => (k.2.1 i hi).trans (h.2.1 i hi), fun B hB => (h.2.2 B hB).trans (k.2.2 B hB)⟩

/-- The integers of one element. -/
structure Mb where
  s : Int
  i : Int
  l : Int

def Mb.fld (m : Mb) : Nat → Value
  | 0 => .int .u32 m.s
  | 1 => .int .u32 m.i
  | _ => .int .i32 m.l
def Mb.flat (F : Nat → Mb) (p : Nat) : Value := (F (p / 3)).fld (p % 3)
theorem Mb.flat_at (F : Nat → Mb) (i c : Nat) (hc : c < 3) : Mb.flat F (i * 3 + c) = (F i).fld c := by
  unfold Mb.flat
  rw [show (i * 3 + c) / 3 = i by omega, show (i * 3 + c) % 3 = c by omega]
theorem Mb.flat_congr {n : Nat} {F F' : Nat → Mb} (e : ∀ q, q < n → F q = F' q) : ∀ p, p < n * 3 → Mb.flat F p = Mb.flat F' p := fun p hp => by unfold Mb.flat; rw [e (p / 3) (by omega)]
/-- The cells of element i. -/
theorem Mb.cells {w : World} {g n : Nat} {F : Nat → Mb} (h : RowG w g 47 (n * 3) (Mb.flat F)) {i : Nat} (hi : i < n) :
    w.cell? ⟨g, i * 3, none⟩ = some (.int .u32 (F i).s) ∧ w.cell? ⟨g, i * 3 + 1, none⟩ = some (.int .u32 (F i).i) ∧ w.cell? ⟨g, i * 3 + 2, none⟩ = some (.int .i32 (F i).l) := by
  have k : ∀ c, c < 3 → w.cell? ⟨g, i * 3 + c, none⟩ = some ((F i).fld c) := fun c hc => by rw [← Mb.flat_at F i c hc]; exact h.cell (by omega)
  exact ⟨k 0 (by omega), k 1 (by omega), k 2 (by omega)⟩
/-- Element i is overwritten by m. -/
def Mb.put (w : World) (g i : Nat) (m : Mb) : World :=
  (((w.setCell ⟨g, i * 3, none⟩ (.int .u32 m.s)).setCell ⟨g, i * 3 + 1, none⟩ (.int .u32 m.i)).setCell ⟨g, i * 3 + 2, none⟩ (.int .i32 m.l))
theorem Mb.put_row {w : World} {g n : Nat} {F : Nat → Mb} (h : RowG w g 47 (n * 3) (Mb.flat F)) (i : Nat) (m : Mb) : RowG (Mb.put w g i m) g 47 (n * 3) (Mb.flat fun q => if q = i then m else F q) := by
  refine RowG.ext (((h.set _ _).set _ _).set _ _) fun p _ => ?_
  simp only [Mb.flat]
  by_cases hp : p / 3 = i
  · rw [if_pos hp]
    have hc : p % 3 = 0 ∨ p % 3 = 1 ∨ p % 3 = 2 := by omega
    rcases hc with hc | hc | hc
    · rw [hc, if_neg (by omega), if_neg (by omega), if_pos (by omega)]; rfl
    · rw [hc, if_neg (by omega), if_pos (by omega)]; rfl
    · rw [hc, if_pos (by omega)]; rfl
  · rw [if_neg hp, if_neg (by omega), if_neg (by omega), if_neg (by omega)]
theorem Mb.put_only (w : World) (g i : Nat) (m : Mb) : Only g w (Mb.put w g i m) := ((((Only.refl g w).set _ _).set _ _).set _ _)
def Mb.agg (m : Mb) : Value := .agg #[.int .u32 m.s, .int .u32 m.i, .int .i32 m.l]
def Mb.mz (n : Nat) : Array Value := madeCells #[.int .u32 0, .int .u32 0, .int .i32 0] (n * 3)
theorem Mb.mz_size (n : Nat) : (Mb.mz n).size = n * 3 := by simp [Mb.mz, size_madeCells]
theorem Mb.mz_get (n p : Nat) (hp : p < n * 3) : (Mb.mz n)[p]? = some (Mb.flat (fun _ => ⟨0, 0, 0⟩) p) := by
  have hc : p % 3 = 0 ∨ p % 3 = 1 ∨ p % 3 = 2 := by omega
  simp only [Mb.mz, madeCells, Mb.flat]
  rw [Array.getElem?_map, Array.getElem?_range, if_pos hp]
  simp only [Option.map_some, List.size_toArray, List.length_cons, List.length_nil, Nat.zero_add, Nat.reduceAdd]
  rcases hc with hc | hc | hc <;> rw [hc] <;> rfl
theorem Mb.mz_row (n : Nat) (w : World) : RowG (w.alloc (.cells (Mb.mz n) 47)) w.heap.size 47 (n * 3) (Mb.flat fun _ => ⟨0, 0, 0⟩) := by
  have h := RowG.made w 47 (Mb.mz n) (Mb.flat fun _ => ⟨0, 0, 0⟩) (fun p hp => Mb.mz_get n p (by rw [Mb.mz_size] at hp; exact hp))
  rw [Mb.mz_size] at h
  exact h

theorem Mb.info : (Try.prog.info? 47).map (fun i => (i.zero.map (·.cells), i.size, i.bytes)) = some (some #[.int .u32 0, .int .u32 0, .int .i32 0], 3, 12) := by kernel_rfl
theorem Mb.made (n : Nat) (hn : n ≤ 65536) (w : World) : (Instr.makeSlice 28 (.int .i64 n) (.int .i64 n)).run Try.prog w = .ok (.slice (some ⟨w.heap.size, 0, none⟩) n n) (w.alloc (.cells (Mb.mz n) 47)) := by
  obtain ⟨i, hi, hz⟩ := Option.map_eq_some_iff.1 Mb.info
  simp only [Prod.mk.injEq] at hz
  obtain ⟨h1, h2, h3⟩ := hz
  obtain ⟨z, hz, hzc⟩ := Option.map_eq_some_iff.1 h1
  have hr := run_make (P := Try.prog) w 28 47 i z Try.underlying28 hi hz .i64 .i64 n n (by omega) (Int.le_refl _) (by rw [h3]; omega) (by omega)
  simp only [Int.toNat_natCast, h2, hzc] at hr
  exact hr


def MbE (w : World) (m : Mb) (e : Ending) (w' : World) : Prop := e = .returned (.agg #[.int .u32 m.s, .int .u32 m.i, .int .i32 m.l]) ∧ Below w.heap.size w w'
theorem member (w : World) (i s l : Int) : Calls Try.prog 16 #[.int .u32 i, .int .u32 s, .int .i32 l] w (MbE w ⟨s, i, l⟩) := by
  go_enter Try.func16, Try.ntmps16
  go_wp2
  refine bodyPost_ret (v := .agg #[.int .u32 s, .int .u32 i, .int .i32 l]) (by simp [results, Try.results16, go_sem]) rfl ⟨rfl, ?_⟩
  exact (Below.refl _ _).alloc (Nat.le_refl _) _

/-- The order of Less: the inner index first, then the source index. -/
def lessB (a b : Mb) : Bool := decide (a.i < b.i) || (a.i == b.i && decide (a.s < b.s))
def LessE (w : World) (v : Bool) (e : Ending) (w' : World) : Prop := e = .returned (.bool v) ∧ Below w.heap.size w w'

theorem less (w : World) (g n i j : Nat) (F : Nat → Mb) (hi : i < n) (hj : j < n) (hn : n ≤ 65536) (hr : RowG w g 47 (n * 3) (Mb.flat F)) :
    Calls Try.prog 10 #[.slice (some ⟨g, 0, none⟩) n n, .int .i64 i, .int .i64 j] w (LessE w (lessB (F i) (F j))) := by
  obtain ⟨a0, a1, a2⟩ := Mb.cells hr hi
  obtain ⟨b0, b1, b2⟩ := Mb.cells hr hj
  have hlt := hr.lt
  clear hr
  generalize hA : F i = A at *
  generalize hB : F j = B at *
  clear hA hB
  obtain ⟨xs, ai, al⟩ := A
  obtain ⟨bs, bi, bl⟩ := B
  simp only at a0 a1 a2 b0 b1 b2
  have hL : Hid (∀ v, lessB ⟨xs, ai, al⟩ ⟨bs, bi, bl⟩ = v → LessE w (lessB ⟨xs, ai, al⟩ ⟨bs, bi, bl⟩) = LessE w v) := Lib.hid fun v h => by rw [h]
  by_cases h1 : ai < bi
  · rw [hL.out true (by simp [lessB, h1])]
    go_enter Try.func10, Try.ntmps10
    go_wp2
    go_ret
    exact ⟨rfl, ((Below.refl _ _).alloc (Nat.le_refl _) _).alloc (by simp) _⟩
  · have e1 : decide (ai < bi) = false := by simpa using h1
    by_cases h2 : ai = bi
    · subst h2
      by_cases h3 : xs < bs
      · rw [hL.out true (by simp [lessB, h3])]
        go_enter Try.func10, Try.ntmps10
        go_wp2
        go_ret
        exact ⟨rfl, ((Below.refl _ _).alloc (Nat.le_refl _) _).alloc (by simp) _⟩
      · rw [hL.out false (by simp [lessB]; omega)]
        go_enter Try.func10, Try.ntmps10
        go_wp2
        go_ret
        exact ⟨rfl, ((Below.refl _ _).alloc (Nat.le_refl _) _).alloc (by simp) _⟩
    · have e2 : (ai == bi) = false := by simpa using h2
      rw [hL.out false (by simp [lessB, h1, h2])]
      go_enter Try.func10, Try.ntmps10
      go_wp2
      go_ret
      exact ⟨rfl, ((Below.refl _ _).alloc (Nat.le_refl _) _).alloc (by simp) _⟩

/-- The 64-bit key. -/
def key (i s : Int) : Int := i * 4294967296 + s
theorem key_any (w : World) (i s : Int) (hi : 0 ≤ i ∧ i ≤ 4294967295) (hs : 0 ≤ s ∧ s ≤ 4294967295) :
    Calls Try.prog 9 #[.int .u32 i, .int .u32 s] w fun e w' => e = .returned (.int .u64 (key i s)) ∧ w = w' := by
  go_enter Try.func9, Try.ntmps9
  go_wp2
  go_ret
  refine ⟨?_, rfl⟩
  have e : bits .or .u64 (i * 4294967296) s = key i s := by
    obtain ⟨a, rfl⟩ : ∃ a : Nat, i = (a : Int) := ⟨i.toNat, by omega⟩
    obtain ⟨b, rfl⟩ : ∃ b : Nat, s = (b : Int) := ⟨s.toNat, by omega⟩
    have h := u64_or_nat (a * 4294967296) b (by omega) (by omega)
    rw [nat_join 32 _ _ (by omega) (by omega)] at h
    rw [show ((a * 4294967296 : Nat) : Int) = (a : Int) * 4294967296 by omega] at h
    rw [h]
    unfold key
    omega
  show Ending.returned (.int .u64 (bits .or .u64 (i * 4294967296) s)) = _
  rw [e]

/-- The first k members are laid; the rest are zero. -/
def Bk (I S L : Nat → Int) (k q : Nat) : Mb := if q < k then ⟨S q, I q, L q⟩ else ⟨0, 0, 0⟩
theorem Bk_step (I S L : Nat → Int) (k q : Nat) : (if q = k then (⟨S k, I k, L k⟩ : Mb) else Bk I S L k q) = Bk I S L (k + 1) q := by
  unfold Bk
  by_cases e : q = k
  · subst e; rw [if_pos rfl, if_pos (by omega)]
  · rw [if_neg e]
    by_cases e' : q < k
    · rw [if_pos e', if_pos (by omega)]
    · rw [if_neg e', if_neg (by omega)]
def Held (w1 : World) (g n : Nat) (F : Nat → Mb) (w : World) : Prop := RowG w g 47 (n * 3) (Mb.flat F) ∧ Below g w1 w
theorem Held.below {w1 w w' : World} {g n : Nat} {F : Nat → Mb} (h : Held w1 g n F w) (hb : Below w.heap.size w w') : Held w1 g n F w' :=
  ⟨h.1.below hb h.1.lt, h.2.trans (hb.mono (Nat.le_of_lt h.1.lt))⟩
theorem Held.drew {w1 w : World} {g n : Nat} {F : Nat → Mb} (h : Held w1 g n F w) : Held w1 g n F w.drew := ⟨h.1.drew, h.2.drew⟩
theorem Held.put {w1 w : World} {g n : Nat} {F : Nat → Mb} (h : Held w1 g n F w) (i : Nat) (m : Mb) : Held w1 g n (fun q => if q = i then m else F q) (Mb.put w g i m) :=
  ⟨Mb.put_row h.1 i m, h.2.trans ((Mb.put_only w g i m).2.2 g (Nat.le_refl _))⟩
theorem Held.congr {w1 w : World} {g n : Nat} {F F' : Nat → Mb} (h : Held w1 g n F w) (e : ∀ q, q < n → F q = F' q) : Held w1 g n F' w := ⟨h.1.ext (Mb.flat_congr e), h.2⟩

theorem Held.below2 {w1 w : World} {g n : Nat} {F : Nat → Mb} (h : Held w1 g n F w) : Below g w1 w := h.2
def Built (w : World) (n : Nat) (F : Nat → Mb) (e : Ending) (w' : World) : Prop := ∃ g, e = .returned (.slice (some ⟨g, 0, none⟩) n n) ∧ g = w.heap.size ∧ Held w g n F w'
def Three (w : World) (a b c : Addr) (k : Nat) (I S L : Nat → Int) : Prop :=
  w.cell? ⟨a.block, a.off + k, none⟩ = some (.int .u32 (I k)) ∧ w.cell? ⟨b.block, b.off + k, none⟩ = some (.int .u32 (S k)) ∧ w.cell? ⟨c.block, c.off + k, none⟩ = some (.int .i32 (L k))

theorem below3 {w1 w : World} {g : Nat} (h : Below g w1 w) (a b c : Nat) (x y z : Value) : Below g w1 (((w.setCell ⟨g, a, none⟩ x).setCell ⟨g, b, none⟩ y).setCell ⟨g, c, none⟩ z) :=
  Below.setCell (Below.setCell (Below.setCell h (by exact Nat.le_refl _) _) (by exact Nat.le_refl _) _) (by exact Nat.le_refl _) _
theorem keep3 {w : World} {g n k ab ao bb bo cb co : Nat} {I S L : Nat → Int} (T3 : ∀ (w' : World) k, Below g w w' → k < n → Three w' ⟨ab, ao, none⟩ ⟨bb, bo, none⟩ ⟨cb, co, none⟩ k I S L) (hk : k < n) {w' : World} (h : Below g w w') :
    w'.cell? ⟨ab, ao + k, none⟩ = some (.int .u32 (I k)) ∧ w'.cell? ⟨bb, bo + k, none⟩ = some (.int .u32 (S k)) ∧ w'.cell? ⟨cb, co + k, none⟩ = some (.int .i32 (L k)) ∧ Below g w w' := by
  obtain ⟨c1, c2, c3⟩ := T3 w' k h hk
  exact ⟨c1, c2, c3, h⟩

set_option maxHeartbeats 2000000 in
theorem build (w : World) (ab bb cb ao bo co n ac bc cc : Nat) (I S L : Nat → Int) (hn : n ≤ 65536)
    (hI : Cells w ⟨ab, ao, none⟩ n fun i => Value.int .u32 (I i)) (hS : Cells w ⟨bb, bo, none⟩ n fun i => Value.int .u32 (S i)) (hL : Cells w ⟨cb, co, none⟩ n fun i => Value.int .i32 (L i)) :
    Calls Try.prog 8 #[.slice (some ⟨ab, ao, none⟩) n ac, .slice (some ⟨bb, bo, none⟩) n bc, .slice (some ⟨cb, co, none⟩) n cc] w (Built w n (fun q => ⟨S q, I q, L q⟩)) := by
  have HI := Lib.hid hI
  have HS := Lib.hid hS
  have HL := Lib.hid hL
  clear hI hS hL
  have hmk := Mb.made n hn w
  go_enter Try.func8, Try.ntmps8
  go_wp2
  have h0 : Held w w.heap.size n (Bk I S L 0) (w.alloc (.cells (Mb.mz n) 47)) := ⟨(Mb.mz_row n w).ext fun p _ => by simp [Mb.flat, Bk], (Below.refl _ _).alloc (Nat.le_refl _) _⟩
  have H0 := Lib.hid h0
  clear h0 hmk
  generalize hg : w.heap.size = g at *
  generalize w.alloc (.cells (Mb.mz n) 47) = w2 at *
  have HG := Lib.hid hg
  clear hg
  have T3 : Hid (∀ (w' : World) k, Below g w w' → k < n → Three w' ⟨ab, ao, none⟩ ⟨bb, bo, none⟩ ⟨cb, co, none⟩ k I S L) := Lib.hid fun w' k hb hk => by
    have hb' : Below w.heap.size w w' := by rw [HG.out]; exact hb
    exact ⟨(HI.out.below hb').2 k hk, (HS.out.below hb').2 k hk, (HL.out.below hb').2 k hk⟩
  go_loopw [9] (fun v wr => ∃ k : Nat, k ≤ n ∧ v = .int .i64 k ∧ Held w g n (Bk I S L k) wr) (fun v _ => n - (intOf v).toNat)
  case atStart => exact ⟨0, by omega, rfl, H0.out⟩
  case round =>
    obtain ⟨k, hk, rfl, hR⟩ := hrel
    have HR := Lib.hid hR
    clear hR
    by_cases hlt : k < n
    · obtain ⟨c1, c2, c3⟩ := T3.out wr k HR.out.2 hlt
      simp only at c1 c2 c3
      go_wp2_with fail
      have hk0 := HR.out
      have hbl0 := hk0.2
      go_region_held3 (fun w' => w'.cell? ⟨ab, ao + k, none⟩ = some (.int .u32 (I k)) ∧ w'.cell? ⟨bb, bo + k, none⟩ = some (.int .u32 (S k)) ∧ w'.cell? ⟨cb, co + k, none⟩ = some (.int .i32 (L k)) ∧ Below g w w')
        (first | (refine keep3 T3.out hlt ?_; first | assumption | exact Below.drew (by assumption) | exact below3 (by assumption) _ _ _ _ _ _ | exact Below.drew (below3 (by assumption) _ _ _ _ _ _)))
        (first | (go_at_call 16; (with_reducible refine (member _ _ _ _).mono ?_); rintro e w' ⟨rfl, hb⟩; have hH := Held.below (w1 := w) (g := g) (n := n) (F := Bk I S L k) (by first | assumption | exact Held.drew (by assumption)) hb; obtain ⟨d0, d1, d2⟩ := Mb.cells hH.1 hlt; have ff := hH.1.frozen; have hbl := hH.2; clear hb))
      go_wp2_with fail
      go_roundw
      case rel => exact ⟨k + 1, by omega, by go_num, Held.congr (hH.put k ⟨S k, I k, L k⟩) fun q _ => Bk_step I S L k q⟩
      case measure => simp [intOf]; omega
    · obtain rfl : k = n := by omega
      go_wp2_with fail
      go_ret
      refine ⟨g, rfl, HG.out.symm, Held.congr HR.out fun q hq => ?_⟩
      simp only [Bk, if_pos hq]
end Go.Proofs.Ytgelgpeabcmndaa.sm
