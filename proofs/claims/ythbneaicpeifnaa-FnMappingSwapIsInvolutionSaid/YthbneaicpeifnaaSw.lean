/-
  The contracts of zzB1CloneI32, zzB1Elem and Swap.
-/
import Derived.Test.YthbneaicpeifnaaRows
import Derived.WalkKit
import Derived.ProofKit
import Derived.OpenShut
import Derived.ShutString
import Derived.Lib.Hide
import Derived.WalkLawsBesides
import Derived.Deep.OwnRows
import Derived.Laws.Rows
import Derived.OneCell
import Derived.Below
import Derived.WalkSpells
import Derived.RegionTactic
import Derived.BigRegion
import Derived.ChangeAlike
import Derived.Deep.RegionHeld3
import Derived.Deep.DeepCutAuto
namespace Go.Proofs.Ythbneaicpeifnaa.sw
open Go.ChangeShapes Go.WideShapes Go.ChangeAt Go.RowKit Go.Deep
set_option linter.unusedVariables false

/-- n cells, of which the first k are V's and the rest z. -/
def fillA (V : Nat → Value) (z : Value) (k n : Nat) : Array Value := (Array.range n).map (fun i => if i < k then V i else z)
theorem size_fillA (V : Nat → Value) (z : Value) (k n : Nat) : (fillA V z k n).size = n := by simp [fillA]
theorem get_fillA (V : Nat → Value) (z : Value) (k n i : Nat) (h : i < n) : (fillA V z k n)[i]? = some (if i < k then V i else z) := by
  simp [fillA, h]
theorem fillA_zero (V : Nat → Value) (z : Value) (n : Nat) : madeCells #[z] n = fillA V z 0 n := by
  simp [fillA, madeCells, Nat.mod_one]
theorem fillA_step (V : Nat → Value) (z : Value) (k n : Nat) (h : k < n) : (fillA V z k n).setIfInBounds k (V k) = fillA V z (k + 1) n := by
  apply Array.ext
  · simp [size_fillA]
  · intro i h1 h2
    have hi : i < n := by simpa [size_fillA] using h2
    rw [Array.getElem_setIfInBounds (by simpa [size_fillA] using hi)]
    simp only [fillA, Array.getElem_map, Array.getElem_range]
    by_cases hk : k = i
    · subst hk; simp
    · rw [if_neg hk]
      by_cases h3 : i < k
      · rw [if_pos h3, if_pos (by omega)]
      · rw [if_neg h3, if_neg (by omega)]
theorem fillA_full (V : Nat → Value) (z : Value) (n : Nat) : fillA V z n n = (Array.range n).map V := by
  apply Array.ext
  · simp [fillA]
  · intro i h1 h2
    have hi : i < n := by simpa using h2
    simp [fillA, hi]

/-- The cells of a slice: V i at place i; of an empty slice nothing is said. -/
def Cells (w : World) (a : Addr) (n : Nat) (V : Nat → Value) : Prop := (0 < n → a.spot = none) ∧ ∀ i, i < n → w.cell? ⟨a.block, a.off + i, none⟩ = some (V i)
theorem Cells.below {w w' : World} {a : Addr} {n : Nat} {V : Nat → Value} (h : Cells w a n V) (hb : Below w.heap.size w w') : Cells w' a n V := by
  refine ⟨h.1, fun i hi => ?_⟩
  have h1 := h.2 i hi
  have hlt : a.block < w.heap.size := block_lt_of_cell (a := ⟨a.block, a.off + i, none⟩) h1
  exact (hb.cell (p := ⟨a.block, a.off + i, none⟩) hlt).trans h1
theorem Cells.alloc {w : World} {a : Addr} {n : Nat} {V : Nat → Value} (h : Cells w a n V) (o : Obj) : Cells (w.alloc o) a n V := h.below ((Below.refl _ _).alloc (Nat.le_refl _) _)
theorem Cells.made (w : World) (n : Nat) (V : Nat → Value) (e : TypeId) : Cells (w.alloc (.cells ((Array.range n).map V) e)) ⟨w.heap.size, 0, none⟩ n V := by
  refine ⟨fun _ => rfl, fun i hi => ?_⟩
  have h := cell_of_row (w.alloc (.cells ((Array.range n).map V) e)) w.heap.size i _ _ _ (heap_alloc_new w _)
  simp only [Nat.zero_add]
  rw [h]
  simp [hi]

theorem info21 : (Try.prog.info? 21).map (fun i => (i.zero, i.size, i.bytes)) = some (some (Value.int .i32 0), 1, 4) := by kernel_rfl

set_option maxHeartbeats 1000000 in
theorem clone_main (w : World) (b off : Nat) (len cap : Nat) (V : Nat → Int) (hl : len ≤ 1048576) (hc : Cells w ⟨b, off, none⟩ len fun i => Value.int .i32 (V i)) :
    Calls Try.prog 6 #[.slice (some ⟨b, off, none⟩) len cap] w fun e w' => e = .returned (.slice (some ⟨w.heap.size, 0, none⟩) len len) ∧
      w.alloc (.cells ((Array.range len).map fun i => Value.int .i32 (V i)) 21) = w' := by
  have HC := Lib.hid hc
  clear hc
  have hmk := run_make_row' (P := Try.prog) 22 21 (Value.int .i32 0) 4 Try.underlying22 info21 rfl .i64 .i64 len (by omega) (by omega) w
  rw [fillA_zero (fun i => Value.int .i32 (V i))] at hmk
  have hnil := fun (w : World) (a : Option Addr) (n c : Nat) => Lib.run_eql_slice_nil (P := Try.prog) w 22 21 a n c 0 0 Try.underlying22
  go_enter Try.func6, Try.ntmps6
  go_wp2
  go_loopw [4] (fun i wr => ∃ k : Nat, k ≤ len ∧ i = .int .i64 k ∧ w.alloc (.cells (fillA (fun i => Value.int .i32 (V i)) (Value.int .i32 0) k len) 21) = wr) (fun i _ => len - (intOf i).toNat)
  case atStart => exact ⟨0, by omega, rfl, rfl⟩
  case round =>
    obtain ⟨k, hk, rfl, rfl⟩ := hrel
    clear hmk
    by_cases hlt : k < len
    · have c1 : w.cell? ⟨b, off + k, none⟩ = some (Value.int .i32 (V k)) := HC.out.2 k hlt
      have hbl : b < w.heap.size := block_lt_of_cell (a := ⟨b, off + k, none⟩) c1
      have c2 : (fillA (fun i => Value.int .i32 (V i)) (Value.int .i32 0) k len)[k]? = some (Value.int .i32 0) := by rw [get_fillA _ _ _ _ _ hlt, if_neg (by omega)]
      have HF := Lib.hid (fillA_step (fun i => Value.int .i32 (V i)) (Value.int .i32 0) k len hlt)
      go_wp2
      go_roundw
      case rel => exact ⟨k + 1, by omega, by go_num, by rw [← HF.out]⟩
      case measure => simp [intOf]; omega
    · obtain rfl : k = len := by omega
      rw [fillA_full]
      go_wp2
      go_ret
      exact ⟨rfl, rfl⟩

set_option maxHeartbeats 1000000 in
theorem clone_zero (w : World) (x : Addr) (cap : Nat) :
    Calls Try.prog 6 #[.slice (some x) 0 cap] w fun e w' => e = .returned (.slice (some ⟨w.heap.size, 0, none⟩) 0 0) ∧ w.alloc (.cells #[] 21) = w' := by
  have hmk := run_make_row' (P := Try.prog) 22 21 (Value.int .i32 0) 4 Try.underlying22 info21 rfl .i64 .i64 0 (by omega) (by omega) w
  rw [show madeCells #[Value.int .i32 0] 0 = #[] by simp [madeCells], show ((0 : Nat) : Int) = 0 from rfl] at hmk
  have hnil := fun (w : World) (a : Option Addr) (n c : Nat) => Lib.run_eql_slice_nil (P := Try.prog) w 22 21 a n c 0 0 Try.underlying22
  go_enter Try.func6, Try.ntmps6
  go_wp2
  go_loopw [4] (fun i wr => i = .int .i64 0 ∧ w.alloc (.cells #[] 21) = wr) (fun i _ => 0)
  case atStart => exact ⟨rfl, rfl⟩
  case round =>
    obtain ⟨rfl, rfl⟩ := hrel
    clear hmk
    go_wp2
    go_ret
    exact ⟨rfl, rfl⟩

theorem clone (w : World) (x : Addr) (len cap : Nat) (V : Nat → Int) (hl : len ≤ 1048576) (hc : Cells w x len fun i => Value.int .i32 (V i)) :
    Calls Try.prog 6 #[.slice (some x) len cap] w fun e w' => e = .returned (.slice (some ⟨w.heap.size, 0, none⟩) len len) ∧
      w.alloc (.cells ((Array.range len).map fun i => Value.int .i32 (V i)) 21) = w' := by
  by_cases h0 : len = 0
  · subst h0
    rw [show ((Array.range 0).map fun i => Value.int .i32 (V i)) = #[] by simp]
    exact clone_zero w x cap
  · obtain ⟨b, off, sp⟩ := x
    obtain rfl : sp = none := hc.1 (by omega)
    exact clone_main w b off len cap V hl hc

theorem clone_nil (w : World) : Calls Try.prog 6 #[.slice none 0 0] w fun e w' => e = .returned (.slice none 0 0) ∧ w = w' := by
  have hnil := fun (w : World) (a : Option Addr) (n c : Nat) => Lib.run_eql_slice_nil (P := Try.prog) w 22 21 a n c 0 0 Try.underlying22
  go_enter Try.func6, Try.ntmps6
  go_wp2
  go_ret
  exact ⟨rfl, rfl⟩

/-- Block g is a row of N cells of element type T, cell p holding G p; it may be written. -/
def RowG (w : World) (g : Nat) (T : TypeId) (N : Nat) (G : Nat → Value) : Prop :=
  ∃ arr, w.heap[g]? = some (.cells arr T (0, 0)) ∧ arr.size = N ∧ ∀ p, p < N → arr[p]? = some (G p)
section
variable {w w' : World} {g N : Nat} {T : TypeId} {G : Nat → Value}
theorem RowG.lt (h : RowG w g T N G) : g < w.heap.size := by
  obtain ⟨arr, h1, _, _⟩ := h
  exact lt_of_block h1
theorem RowG.cell (h : RowG w g T N G) {p : Nat} (hp : p < N) : w.cell? ⟨g, p, none⟩ = some (G p) := by
  obtain ⟨arr, h1, _, h3⟩ := h
  rw [cell_of_row w g p _ _ _ h1]
  exact h3 p hp
theorem RowG.frozen (h : RowG w g T N G) (p : Nat) : w.frozen? ⟨g, p, none⟩ = false := by
  obtain ⟨arr, h1, _, _⟩ := h
  exact frozen_of_row w g p _ _ h1
theorem RowG.set (h : RowG w g T N G) (p : Nat) (v : Value) : RowG (w.setCell ⟨g, p, none⟩ v) g T N (fun q => if q = p then v else G q) := by
  obtain ⟨arr, h1, h2, h3⟩ := h
  refine ⟨_, heap_setCell_same w g p arr T v h1, by simpa using h2, fun q hq => ?_⟩
  by_cases e : p = q
  · subst e
    rw [Array.getElem?_setIfInBounds_self_of_lt (by omega)]
    simp
  · rw [Array.getElem?_setIfInBounds_ne e]
    show arr[q]? = some (if q = p then v else G q)
    rw [if_neg (by omega)]
    exact h3 q hq
theorem RowG.ext {G' : Nat → Value} (h : RowG w g T N G) (e : ∀ p, p < N → G p = G' p) : RowG w g T N G' := by
  obtain ⟨arr, h1, h2, h3⟩ := h
  exact ⟨arr, h1, h2, fun p hp => by rw [h3 p hp, e p hp]⟩
theorem RowG.drew (h : RowG w g T N G) : RowG w.drew g T N G := h
theorem RowG.of_block (h : RowG w g T N G) (e : w'.heap[g]? = w.heap[g]?) : RowG w' g T N G := by
  obtain ⟨arr, h1, h2, h3⟩ := h
  exact ⟨arr, e.trans h1, h2, h3⟩
theorem RowG.below {B : Nat} (h : RowG w g T N G) (hb : Below B w w') (hg : g < B) : RowG w' g T N G := h.of_block (hb.block g hg)
theorem RowG.alloc (h : RowG w g T N G) (o : Obj) : RowG (w.alloc o) g T N G := h.below ((Below.refl _ _).alloc (Nat.le_refl _) o) h.lt
theorem RowG.other (h : RowG w g T N G) (a : Addr) (v : Value) (hg : g ≠ a.block) : RowG (w.setCell a v) g T N G := h.of_block (Below.heap_setCell _ _ _ _ hg)
end
theorem RowG.made (w : World) (T : TypeId) (arr : Array Value) (G : Nat → Value) (h : ∀ p, p < arr.size → arr[p]? = some (G p)) : RowG (w.alloc (.cells arr T)) w.heap.size T arr.size G :=
  ⟨arr, heap_alloc_new w _, rfl, h⟩

/-- Nothing but block g has changed; no block has gone or come. -/
def Only (g : Nat) (w w' : World) : Prop := w'.heap.size = w.heap.size ∧ (∀ k, k ≠ g → w'.heap[k]? = w.heap[k]?) ∧ ∀ B, B ≤ g → Below B w w'
theorem Only.refl (g : Nat) (w : World) : Only g w w := ⟨rfl, fun _ _ => rfl, fun B _ => Below.refl B w⟩
theorem Only.drew {g : Nat} {w w' : World} (h : Only g w w') : Only g w w'.drew := ⟨h.1, h.2.1, fun B hB => (h.2.2 B hB).drew⟩
theorem Only.set {g : Nat} {w w' : World} (h : Only g w w') (p : Nat) (v : Value) : Only g w (w'.setCell ⟨g, p, none⟩ v) :=
  ⟨by rw [← h.1]; simp, fun k hk => (Below.heap_setCell _ _ _ _ (by exact hk)).trans (h.2.1 k hk), fun B hB => (h.2.2 B hB).setCell (by exact hB) _⟩
theorem Only.row {g g' N : Nat} {T : TypeId} {G : Nat → Value} {w w' : World} (h : Only g w w') (r : RowG w g' T N G) (hg : g' ≠ g) : RowG w' g' T N G := r.of_block (h.2.1 g' hg)
theorem Only.trans {g : Nat} {a b c : World} (h : Only g a b) (k : Only g b c) : Only g a c := ⟨k.1.trans h.1, fun i hi => (k.2.1 i hi).trans (h.2.1 i hi), fun B hB => (h.2.2 B hB).trans (k.2.2 B hB)⟩


/-- A mapping's six numbers. -/
structure Mp where
  a : Int
  b : Int
  c : Int
  d : Int
  e : Int
  o : Int

def fld (m : Mp) : Nat → Value
  | 0 => .int .i32 m.a
  | 1 => .int .i32 m.b
  | 2 => .int .i32 m.c
  | 3 => .int .i32 m.d
  | 4 => .int .i32 m.e
  | _ => .int .u32 m.o

def flat (F : Nat → Mp) (p : Nat) : Value := fld (F (p / 6)) (p % 6)
theorem flat_at (F : Nat → Mp) (i c : Nat) (hc : c < 6) : flat F (i * 6 + c) = fld (F i) c := by
  unfold flat
  rw [show (i * 6 + c) / 6 = i by omega, show (i * 6 + c) % 6 = c by omega]

/-- The six cells of element i. -/
theorem six {w : World} {g n : Nat} {F : Nat → Mp} (h : RowG w g 30 (n * 6) (flat F)) {i : Nat} (hi : i < n) :
    w.cell? ⟨g, i * 6, none⟩ = some (.int .i32 (F i).a) ∧ w.cell? ⟨g, i * 6 + 1, none⟩ = some (.int .i32 (F i).b) ∧ w.cell? ⟨g, i * 6 + 2, none⟩ = some (.int .i32 (F i).c) ∧
    w.cell? ⟨g, i * 6 + 3, none⟩ = some (.int .i32 (F i).d) ∧ w.cell? ⟨g, i * 6 + 4, none⟩ = some (.int .i32 (F i).e) ∧ w.cell? ⟨g, i * 6 + 5, none⟩ = some (.int .u32 (F i).o) := by
  have k : ∀ c, c < 6 → w.cell? ⟨g, i * 6 + c, none⟩ = some (fld (F i) c) := fun c hc => by rw [← flat_at F i c hc]; exact h.cell (by omega)
  exact ⟨k 0 (by omega), k 1 (by omega), k 2 (by omega), k 3 (by omega), k 4 (by omega), k 5 (by omega)⟩

/-- Element i is overwritten by m. -/
def put (w : World) (g i : Nat) (m : Mp) : World :=
  (((((w.setCell ⟨g, i * 6, none⟩ (.int .i32 m.a)).setCell ⟨g, i * 6 + 1, none⟩ (.int .i32 m.b)).setCell ⟨g, i * 6 + 2, none⟩ (.int .i32 m.c)).setCell ⟨g, i * 6 + 3, none⟩ (.int .i32 m.d)).setCell ⟨g, i * 6 + 4, none⟩ (.int .i32 m.e)).setCell ⟨g, i * 6 + 5, none⟩ (.int .u32 m.o)
theorem put_row {w : World} {g n : Nat} {F : Nat → Mp} (h : RowG w g 30 (n * 6) (flat F)) (i : Nat) (m : Mp) : RowG (put w g i m) g 30 (n * 6) (flat fun q => if q = i then m else F q) := by
  refine ((((((h.set _ _).set _ _).set _ _).set _ _).set _ _).set _ _).ext fun p _ => ?_
  simp only [flat]
  by_cases hp : p / 6 = i
  · rw [if_pos hp]
    have hc : p % 6 = 0 ∨ p % 6 = 1 ∨ p % 6 = 2 ∨ p % 6 = 3 ∨ p % 6 = 4 ∨ p % 6 = 5 := by omega
    rcases hc with hc | hc | hc | hc | hc | hc
    · rw [hc, if_neg (by omega), if_neg (by omega), if_neg (by omega), if_neg (by omega), if_neg (by omega), if_pos (by omega)]; rfl
    · rw [hc, if_neg (by omega), if_neg (by omega), if_neg (by omega), if_neg (by omega), if_pos (by omega)]; rfl
    · rw [hc, if_neg (by omega), if_neg (by omega), if_neg (by omega), if_pos (by omega)]; rfl
    · rw [hc, if_neg (by omega), if_neg (by omega), if_pos (by omega)]; rfl
    · rw [hc, if_neg (by omega), if_pos (by omega)]; rfl
    · rw [hc, if_pos (by omega)]; rfl
  · rw [if_neg hp, if_neg (by omega), if_neg (by omega), if_neg (by omega), if_neg (by omega), if_neg (by omega), if_neg (by omega)]
theorem put_only (w : World) (g i : Nat) (m : Mp) : Only g w (put w g i m) := ((((((Only.refl g w).set _ _).set _ _).set _ _).set _ _).set _ _).set _ _

def swp (i j q : Nat) : Nat := if q = i then j else if q = j then i else q

def Swapped (w : World) (g n i j : Nat) (F : Nat → Mp) (e : Ending) (w' : World) : Prop := e = .returned (.tuple #[]) ∧ RowG w' g 30 (n * 6) (flat fun q => F (swp i j q)) ∧ Only g w w'

set_option maxHeartbeats 4000000 in
theorem swap_ne (w : World) (g n i j : Nat) (F : Nat → Mp) (hi : i < n) (hj : j < n) (hn : n ≤ 65536) (hr : RowG w g 30 (n * 6) (flat F)) (hij : i ≠ j) :
    Calls Try.prog 11 #[.slice (some ⟨g, 0, none⟩) n n, .int .i64 i, .int .i64 j] w (Swapped w g n i j F) := by
  obtain ⟨a0, a1, a2, a3, a4, a5⟩ := six hr hi
  obtain ⟨b0, b1, b2, b3, b4, b5⟩ := six hr hj
  have f := hr.frozen
  have HR := Lib.hid hr
  clear hr
  have m0 : i * 6 ≠ j * 6 := by omega
  go_enter Try.func11, Try.ntmps11
  go_region
  go_end0
  refine ⟨rfl, ?_, ?_⟩
  · refine RowG.drew (RowG.ext (put_row (put_row HR.out i (F j)) j (F i)) fun p _ => ?_)
    unfold flat
    congr 1
    simp only [swp]
    by_cases h1 : p / 6 = i
    · rw [if_pos h1, if_neg (by omega), if_pos h1]
    · rw [if_neg h1]
      by_cases h2 : p / 6 = j
      · rw [if_pos h2, if_pos h2, if_neg h1]
      · rw [if_neg h2, if_neg h2, if_neg h1]
  · exact Only.drew ((put_only w g i (F j)).trans (put_only _ g j (F i)))

set_option maxHeartbeats 4000000 in
theorem swap_eq (w : World) (g n i : Nat) (F : Nat → Mp) (hi : i < n) (hn : n ≤ 65536) (hr : RowG w g 30 (n * 6) (flat F)) :
    Calls Try.prog 11 #[.slice (some ⟨g, 0, none⟩) n n, .int .i64 i, .int .i64 i] w (Swapped w g n i i F) := by
  obtain ⟨a0, a1, a2, a3, a4, a5⟩ := six hr hi
  have f := hr.frozen
  have HR := Lib.hid hr
  clear hr
  go_enter Try.func11, Try.ntmps11
  go_region
  go_end0
  refine ⟨rfl, ?_, ?_⟩
  · refine RowG.drew (RowG.ext (put_row (put_row HR.out i (F i)) i (F i)) fun p _ => ?_)
    unfold flat
    congr 1
    simp only [swp]
    by_cases h1 : p / 6 = i
    · rw [if_pos h1, if_pos h1]
    · rw [if_neg h1, if_neg h1, if_neg h1, if_neg h1]
  · exact Only.drew ((put_only w g i (F i)).trans (put_only _ g i (F i)))

theorem swap (w : World) (g n i j : Nat) (F : Nat → Mp) (hi : i < n) (hj : j < n) (hn : n ≤ 65536) (hr : RowG w g 30 (n * 6) (flat F)) :
    Calls Try.prog 8 #[.slice (some ⟨g, 0, none⟩) n n, .int .i64 i, .int .i64 j] w (Swapped w g n i j F) := by
  have H : Hid (Calls Try.prog 11 #[.slice (some ⟨g, 0, none⟩) n n, .int .i64 i, .int .i64 j] w (Swapped w g n i j F)) := by
    by_cases h : i = j
    · subst h
      exact Lib.hid (swap_eq w g n i F hi hn hr)
    · exact Lib.hid (swap_ne w g n i j F hi hj hn hr h)
  clear hr
  go_enter Try.func8, Try.ntmps8
  go_wp2_with (go_at_call 11; refine H.out.mono ?_; rintro e w' ⟨rfl, h1, h2⟩)
  have H1 := Lib.hid h1
  have H2 := Lib.hid h2
  clear h1 h2
  go_end0
  exact ⟨rfl, H1.out, H2.out⟩

/-- The k-th mapping of the statement's own text. -/
def el (l : Int) (k : Nat) : Mp := ⟨l, bits .xor .i32 l k, k, k + 1, -k, bits .xor .u32 IntKind.u32.max k⟩
def agg (m : Mp) : Value := .agg #[.int .i32 m.a, .int .i32 m.b, .int .i32 m.c, .int .i32 m.d, .int .i32 m.e, .int .u32 m.o]
def Elem (w : World) (m : Mp) (e : Ending) (w' : World) : Prop := e = .returned (agg m) ∧ Below w.heap.size w w'

theorem elem (w : World) (l : Int) (k : Nat) (hl : -2147483648 ≤ l ∧ l ≤ 2147483647) (hk : k < 65536) :
    Calls Try.prog 7 #[.int .i32 l, .int .i64 k] w (Elem w (el l k)) := by
  go_enter Try.func7, Try.ntmps7
  go_wp2_with (first | (go_at_call 10; go_in) | (refine bodyPost_ret (by simp [results, Try.results10, go_sem]; rfl) rfl ?_; simp only []; go_at_K))
  refine bodyPost_ret (v := agg (el l k)) (by simp [results, Try.results7, go_sem, agg, el]) rfl ⟨rfl, ?_⟩
  exact ((Below.refl _ _).alloc (Nat.le_refl _) _).alloc (by simp) _

def mz (n : Nat) : Array Value := madeCells #[.int .i32 0, .int .i32 0, .int .i32 0, .int .i32 0, .int .i32 0, .int .u32 0] (n * 6)
theorem info30 : (Try.prog.info? 30).map (fun i => (i.zero.map (·.cells), i.size, i.bytes)) = some (some #[.int .i32 0, .int .i32 0, .int .i32 0, .int .i32 0, .int .i32 0, .int .u32 0], 6, 24) := by kernel_rfl
theorem mk25 (n : Nat) (hn : n ≤ 65536) (w : World) : (Instr.makeSlice 25 (.int .i64 n) (.int .i64 n)).run Try.prog w = .ok (.slice (some ⟨w.heap.size, 0, none⟩) n n) (w.alloc (.cells (mz n) 30)) := by
  obtain ⟨i, hi, hz⟩ := Option.map_eq_some_iff.1 info30
  simp only [Prod.mk.injEq] at hz
  obtain ⟨h1, h2, h3⟩ := hz
  obtain ⟨z, hz, hzc⟩ := Option.map_eq_some_iff.1 h1
  have hr := run_makeSlice (P := Try.prog) (w := w) 25 30 i z Try.underlying25 hi hz .i64 .i64 n n (by omega) (Int.le_refl _) (by rw [h2]; omega) (by rw [h3]; omega) (by omega)
  simp only [Int.toNat_natCast, h2, hzc] at hr
  exact hr
theorem mz_size (n : Nat) : (mz n).size = n * 6 := by simp [mz, size_madeCells]
theorem mz_get (n p : Nat) (hp : p < n * 6) : (mz n)[p]? = some (flat (fun _ => ⟨0, 0, 0, 0, 0, 0⟩) p) := by
  have hc : p % 6 = 0 ∨ p % 6 = 1 ∨ p % 6 = 2 ∨ p % 6 = 3 ∨ p % 6 = 4 ∨ p % 6 = 5 := by omega
  simp only [mz, madeCells, flat]
  rw [Array.getElem?_map, Array.getElem?_range, if_pos hp]
  simp only [Option.map_some, List.size_toArray, List.length_cons, List.length_nil, Nat.zero_add, Nat.reduceAdd]
  rcases hc with hc | hc | hc | hc | hc | hc <;> rw [hc] <;> rfl
theorem mz_row (n : Nat) (w : World) : RowG (w.alloc (.cells (mz n) 30)) w.heap.size 30 (n * 6) (flat fun _ => ⟨0, 0, 0, 0, 0, 0⟩) := by
  have h := RowG.made w 30 (mz n) (flat fun _ => ⟨0, 0, 0, 0, 0, 0⟩) (fun p hp => mz_get n p (by rw [mz_size] at hp; exact hp))
  rw [mz_size] at h
  exact h

theorem f30 : Try.prog.underlying 30 = some (.struct (Try.prog.fieldsOf 30)) := by kernel_rfl
theorem f28 : Try.prog.underlying 28 = some (.struct (Try.prog.fieldsOf 28)) := by kernel_rfl
theorem s30 : Try.prog.stoodInHeld 30 = false := by kernel_rfl
theorem s28 : Try.prog.stoodInHeld 28 = false := by kernel_rfl
theorem neq30 (m : Mp) (w : World) : (binOp .neq 30 (agg m) (agg m)).run Try.prog w = .ok (.bool false) w := by
  have e30 := TypeDesc.struct.inj (Option.some.inj (f30.symm.trans Try.underlying30))
  have e28 := TypeDesc.struct.inj (Option.some.inj (f28.symm.trans Try.underlying28))
  have k28 : ∀ x : Int, ∀ w : World, (Op.equalIn 9999 28 (.agg #[.int .u32 x]) (.agg #[.int .u32 x])).run Try.prog w = .ok true w := by
    intro x w
    rw [show (9999 : Nat) = 9998 + 1 from rfl, run_equalIn_struct w 9998 28 _ _ f28 s28, e28]
    simp [Op.eqFields, go_sem]
  unfold agg
  rw [run_neq_struct, show (10000 : Nat) = 9999 + 1 from rfl, run_equalIn_struct w 9999 30 _ _ f30 s30, e30]
  simp [Op.eqFields, go_sem, k28]
end Go.Proofs.Ythbneaicpeifnaa.sw
