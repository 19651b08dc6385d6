/-
  Contracts of the helpers of the statement on 'using' declarations.
-/
import Derived.Test.YtfkeeainklbfbaaRows
import Derived.WalkKit
import Derived.ProofKit
import Derived.OpenShut
import Derived.ShutString
import Derived.Lib.Hide
import Derived.WalkLawsBesides
import Derived.Deep.OwnRows
import Derived.Laws.Rows
import Derived.OneCell
import Derived.Below
import Derived.WalkSpells
import Derived.Laws.Tables
import Derived.WalkSmall

namespace Go.Proofs.Ytfkeeainklbfbaa.us
open Go.ChangeShapes Go.WideShapes Go.ChangeAt Go.RowKit Go.Deep
set_option linter.unusedVariables false

/-- n cells, of which the first k are V's and the rest z. -/
def fillA (V : Nat → Value) (z : Value) (k n : Nat) : Array Value := (Array.range n).map (fun i => if i < k then V i else z)
theorem size_fillA (V : Nat → Value) (z : Value) (k n : Nat) : (fillA V z k n).size = n := by simp [fillA]
theorem get_fillA (V : Nat → Value) (z : Value) (k n i : Nat) (h : i < n) : (fillA V z k n)[i]? = some (if i < k then V i else z) := by
  simp [fillA, h]
theorem fillA_zero (V : Nat → Value) (z : Value) (n : Nat) : madeCells #[z] n = fillA V z 0 n := by
  simp [fillA, madeCells, Nat.mod_one]
theorem fillA_step (V : Nat → Value) (z : Value) (k n : Nat) (h : k < n) : (fillA V z k n).setIfInBounds k (V k) = fillA V z (k + 1) n := by
  apply Array.ext
  · simp [size_fillA]
  · intro i h1 h2
    have hi : i < n := by simpa [size_fillA] using h2
    rw [Array.getElem_setIfInBounds (by simpa [size_fillA] using hi)]
    simp only [fillA, Array.getElem_map, Array.getElem_range]
    by_cases hk : k = i
    · subst hk; simp
    · rw [if_neg hk]
      by_cases h3 : i < k
      · rw [if_pos h3, if_pos (by omega)]
      · rw [if_neg h3, if_neg (by omega)]
theorem fillA_full (V : Nat → Value) (z : Value) (n : Nat) : fillA V z n n = (Array.range n).map V := by
  apply Array.ext
  · simp [fillA]
  · intro i h1 h2
    have hi : i < n := by simpa using h2
    simp [fillA, hi]

/-- The cells of a slice: V i at place i; of an empty slice nothing is said. -/
def Cells (w : World) (a : Addr) (n : Nat) (V : Nat → Value) : Prop := (0 < n → a.spot = none) ∧ ∀ i, i < n → w.cell? ⟨a.block, a.off + i, none⟩ = some (V i)
theorem Cells.below {w w' : World} {a : Addr} {n : Nat} {V : Nat → Value} (h : Cells w a n V) (hb : Below w.heap.size w w') : Cells w' a n V := by
  refine ⟨h.1, fun i hi => ?_⟩
  have h1 := h.2 i hi
  have hlt : a.block < w.heap.size := block_lt_of_cell (a := ⟨a.block, a.off + i, none⟩) h1
  exact (hb.cell (p := ⟨a.block, a.off + i, none⟩) hlt).trans h1
theorem Cells.alloc {w : World} {a : Addr} {n : Nat} {V : Nat → Value} (h : Cells w a n V) (o : Obj) : Cells (w.alloc o) a n V := h.below ((Below.refl _ _).alloc (Nat.le_refl _) _)
theorem Cells.made (w : World) (n : Nat) (V : Nat → Value) (e : TypeId) : Cells (w.alloc (.cells ((Array.range n).map V) e)) ⟨w.heap.size, 0, none⟩ n V := by
  refine ⟨fun _ => rfl, fun i hi => ?_⟩
  have h := cell_of_row (w.alloc (.cells ((Array.range n).map V) e)) w.heap.size i _ _ _ (heap_alloc_new w _)
  simp only [Nat.zero_add]
  rw [h]
  simp [hi]

theorem info5 : (Try.prog.info? 5).map (fun i => (i.zero, i.size, i.bytes)) = some (some (Value.int .u8 0), 1, 1) := by kernel_rfl

set_option maxHeartbeats 1000000 in
theorem clone_main (w : World) (b off : Nat) (len cap : Nat) (V : Nat → Int) (hl : len ≤ 1048576) (hc : Cells w ⟨b, off, none⟩ len fun i => Value.int .u8 (V i)) :
    Calls Try.prog 5 #[.slice (some ⟨b, off, none⟩) len cap] w fun e w' => e = .returned (.slice (some ⟨w.heap.size, 0, none⟩) len len) ∧
      w.alloc (.cells ((Array.range len).map fun i => Value.int .u8 (V i)) 5) = w' := by
  have HC := Lib.hid hc
  clear hc
  have hmk := run_make_row' (P := Try.prog) 22 5 (Value.int .u8 0) 1 Try.underlying22 info5 rfl .i64 .i64 len (by omega) (by omega) w
  rw [fillA_zero (fun i => Value.int .u8 (V i))] at hmk
  have hnil := fun (w : World) (a : Option Addr) (n c : Nat) => Lib.run_eql_slice_nil (P := Try.prog) w 22 5 a n c 0 0 Try.underlying22
  go_enter Try.func5, Try.ntmps5
  go_wp2
  go_loopw [4] (fun i wr => ∃ k : Nat, k ≤ len ∧ i = .int .i64 k ∧ w.alloc (.cells (fillA (fun i => Value.int .u8 (V i)) (Value.int .u8 0) k len) 5) = wr) (fun i _ => len - (intOf i).toNat)
  case atStart => exact ⟨0, by omega, rfl, rfl⟩
  case round =>
    obtain ⟨k, hk, rfl, rfl⟩ := hrel
    clear hmk
    by_cases hlt : k < len
    · have c1 : w.cell? ⟨b, off + k, none⟩ = some (Value.int .u8 (V k)) := HC.out.2 k hlt
      have hbl : b < w.heap.size := block_lt_of_cell (a := ⟨b, off + k, none⟩) c1
      have c2 : (fillA (fun i => Value.int .u8 (V i)) (Value.int .u8 0) k len)[k]? = some (Value.int .u8 0) := by rw [get_fillA _ _ _ _ _ hlt, if_neg (by omega)]
      have HF := Lib.hid (fillA_step (fun i => Value.int .u8 (V i)) (Value.int .u8 0) k len hlt)
      go_wp2
      go_roundw
      case rel => exact ⟨k + 1, by omega, by go_num, by rw [← HF.out]⟩
      case measure => simp [intOf]; omega
    · obtain rfl : k = len := by omega
      rw [fillA_full]
      go_wp2
      go_ret
      exact ⟨rfl, rfl⟩

set_option maxHeartbeats 1000000 in
theorem clone_zero (w : World) (x : Addr) (cap : Nat) :
    Calls Try.prog 5 #[.slice (some x) 0 cap] w fun e w' => e = .returned (.slice (some ⟨w.heap.size, 0, none⟩) 0 0) ∧ w.alloc (.cells #[] 5) = w' := by
  have hmk := run_make_row' (P := Try.prog) 22 5 (Value.int .u8 0) 1 Try.underlying22 info5 rfl .i64 .i64 0 (by omega) (by omega) w
  rw [show madeCells #[Value.int .u8 0] 0 = #[] by simp [madeCells], show ((0 : Nat) : Int) = 0 from rfl] at hmk
  have hnil := fun (w : World) (a : Option Addr) (n c : Nat) => Lib.run_eql_slice_nil (P := Try.prog) w 22 5 a n c 0 0 Try.underlying22
  go_enter Try.func5, Try.ntmps5
  go_wp2
  go_loopw [4] (fun i wr => i = .int .i64 0 ∧ w.alloc (.cells #[] 5) = wr) (fun i _ => 0)
  case atStart => exact ⟨rfl, rfl⟩
  case round =>
    obtain ⟨rfl, rfl⟩ := hrel
    clear hmk
    go_wp2
    go_ret
    exact ⟨rfl, rfl⟩

theorem clone (w : World) (x : Addr) (len cap : Nat) (V : Nat → Int) (hl : len ≤ 1048576) (hc : Cells w x len fun i => Value.int .u8 (V i)) :
    Calls Try.prog 5 #[.slice (some x) len cap] w fun e w' => e = .returned (.slice (some ⟨w.heap.size, 0, none⟩) len len) ∧
      w.alloc (.cells ((Array.range len).map fun i => Value.int .u8 (V i)) 5) = w' := by
  by_cases h0 : len = 0
  · subst h0
    rw [show ((Array.range 0).map fun i => Value.int .u8 (V i)) = #[] by simp]
    exact clone_zero w x cap
  · obtain ⟨b, off, sp⟩ := x
    obtain rfl : sp = none := hc.1 (by omega)
    exact clone_main w b off len cap V hl hc

theorem clone_nil (w : World) : Calls Try.prog 5 #[.slice none 0 0] w fun e w' => e = .returned (.slice none 0 0) ∧ w = w' := by
  have hnil := fun (w : World) (a : Option Addr) (n c : Nat) => Lib.run_eql_slice_nil (P := Try.prog) w 22 5 a n c 0 0 Try.underlying22
  go_enter Try.func5, Try.ntmps5
  go_wp2
  go_ret
  exact ⟨rfl, rfl⟩

/-- Block g is a row of N cells of element type T, cell p holding G p; it may be written. -/
def RowG (w : World) (g : Nat) (T : TypeId) (N : Nat) (G : Nat → Value) : Prop :=
  ∃ arr, w.heap[g]? = some (.cells arr T (0, 0)) ∧ arr.size = N ∧ ∀ p, p < N → arr[p]? = some (G p)
section
variable {w w' : World} {g N : Nat} {T : TypeId} {G : Nat → Value}
theorem RowG.lt (h : RowG w g T N G) : g < w.heap.size := by
  obtain ⟨arr, h1, _, _⟩ := h
  exact lt_of_block h1
theorem RowG.cell (h : RowG w g T N G) {p : Nat} (hp : p < N) : w.cell? ⟨g, p, none⟩ = some (G p) := by
  obtain ⟨arr, h1, _, h3⟩ := h
  rw [cell_of_row w g p _ _ _ h1]
  exact h3 p hp
theorem RowG.frozen (h : RowG w g T N G) (p : Nat) : w.frozen? ⟨g, p, none⟩ = false := by
  obtain ⟨arr, h1, _, _⟩ := h
  exact frozen_of_row w g p _ _ h1
theorem RowG.set (h : RowG w g T N G) (p : Nat) (v : Value) : RowG (w.setCell ⟨g, p, none⟩ v) g T N (fun q => if q = p then v else G q) := by
  obtain ⟨arr, h1, h2, h3⟩ := h
  refine ⟨_, heap_setCell_same w g p arr T v h1, by simpa using h2, fun q hq => ?_⟩
  by_cases e : p = q
  · subst e
    rw [Array.getElem?_setIfInBounds_self_of_lt (by omega)]
    simp
  · rw [Array.getElem?_setIfInBounds_ne e]
    show arr[q]? = some (if q = p then v else G q)
    rw [if_neg (by omega)]
    exact h3 q hq
theorem RowG.ext {G' : Nat → Value} (h : RowG w g T N G) (e : ∀ p, p < N → G p = G' p) : RowG w g T N G' := by
  obtain ⟨arr, h1, h2, h3⟩ := h
  exact ⟨arr, h1, h2, fun p hp => by rw [h3 p hp, e p hp]⟩
theorem RowG.drew (h : RowG w g T N G) : RowG w.drew g T N G := h
theorem RowG.of_block (h : RowG w g T N G) (e : w'.heap[g]? = w.heap[g]?) : RowG w' g T N G := by
  obtain ⟨arr, h1, h2, h3⟩ := h
  exact ⟨arr, e.trans h1, h2, h3⟩
theorem RowG.below {B : Nat} (h : RowG w g T N G) (hb : Below B w w') (hg : g < B) : RowG w' g T N G := h.of_block (hb.block g hg)
theorem RowG.alloc (h : RowG w g T N G) (o : Obj) : RowG (w.alloc o) g T N G := h.below ((Below.refl _ _).alloc (Nat.le_refl _) o) h.lt
theorem RowG.other (h : RowG w g T N G) (a : Addr) (v : Value) (hg : g ≠ a.block) : RowG (w.setCell a v) g T N G := h.of_block (Below.heap_setCell _ _ _ _ hg)
end
theorem RowG.made (w : World) (T : TypeId) (arr : Array Value) (G : Nat → Value) (h : ∀ p, p < arr.size → arr[p]? = some (G p)) : RowG (w.alloc (.cells arr T)) w.heap.size T arr.size G :=
  ⟨arr, heap_alloc_new w _, rfl, h⟩

/-- Nothing but block g has changed; no block has gone or come. -/
def Only (g : Nat) (w w' : World) : Prop := w'.heap.size = w.heap.size ∧ (∀ k, k ≠ g → w'.heap[k]? = w.heap[k]?) ∧ ∀ B, B ≤ g → Below B w w'
theorem Only.refl (g : Nat) (w : World) : Only g w w := ⟨rfl, fun _ _ => rfl, fun B _ => Below.refl B w⟩
theorem Only.drew {g : Nat} {w w' : World} (h : Only g w w') : Only g w w'.drew := ⟨h.1, h.2.1, fun B hB => (h.2.2 B hB).drew⟩
theorem Only.set {g : Nat} {w w' : World} (h : Only g w w') (p : Nat) (v : Value) : Only g w (w'.setCell ⟨g, p, none⟩ v) :=
  ⟨by rw [← h.1]; simp, fun k hk => (Below.heap_setCell _ _ _ _ (by exact hk)).trans (h.2.1 k hk), fun B hB => (h.2.2 B hB).setCell (by exact hB) _⟩
theorem Only.row {g g' N : Nat} {T : TypeId} {G : Nat → Value} {w w' : World} (h : Only g w w') (r : RowG w g' T N G) (hg : g' ≠ g) : RowG w' g' T N G := r.of_block (h.2.1 g' hg)
theorem Only.trans {g : Nat} {a b c : World} (h : Only g a b) (k : Only g b c) : Only g a c := ⟨k.1.trans h.1, fun i hi => (k.2.1 i hi).trans (h.2.1 i hi), fun B hB => (h.2.2 B hB).trans (k.2.2 B hB)⟩

/-- The integers of one element. -/
structure St where
  d : Value
  loc : Int

def St.fld (m : St) : Nat → Value
  | 0 => m.d
  | _ => .int .i32 m.loc
def St.flat (F : Nat → St) (p : Nat) : Value := (F (p / 2)).fld (p % 2)
theorem St.flat_at (F : Nat → St) (i c : Nat) (hc : c < 2) : St.flat F (i * 2 + c) = (F i).fld c := by
  unfold St.flat
  rw [show (i * 2 + c) / 2 = i by omega, show (i * 2 + c) % 2 = c by omega]
theorem St.flat_congr {n : Nat} {F F' : Nat → St} (e : ∀ q, q < n → F q = F' q) : ∀ p, p < n * 2 → St.flat F p = St.flat F' p := fun p hp => by unfold St.flat; rw [e (p / 2) (by omega)]
/-- The cells of element i. -/
theorem St.cells {w : World} {g n : Nat} {F : Nat → St} (h : RowG w g 161 (n * 2) (St.flat F)) {i : Nat} (hi : i < n) :
    w.cell? ⟨g, i * 2, none⟩ = some ((F i).d) ∧ w.cell? ⟨g, i * 2 + 1, none⟩ = some (.int .i32 (F i).loc) := by
  have k : ∀ c, c < 2 → w.cell? ⟨g, i * 2 + c, none⟩ = some ((F i).fld c) := fun c hc => by rw [← St.flat_at F i c hc]; exact h.cell (by omega)
  exact ⟨k 0 (by omega), k 1 (by omega)⟩
/-- Element i is overwritten by m. -/
def St.put (w : World) (g i : Nat) (m : St) : World :=
  ((w.setCell ⟨g, i * 2, none⟩ (m.d)).setCell ⟨g, i * 2 + 1, none⟩ (.int .i32 m.loc))
theorem St.put_row {w : World} {g n : Nat} {F : Nat → St} (h : RowG w g 161 (n * 2) (St.flat F)) (i : Nat) (m : St) : RowG (St.put w g i m) g 161 (n * 2) (St.flat fun q => if q = i then m else F q) := by
  refine RowG.ext ((h.set _ _).set _ _) fun p _ => ?_
  simp only [St.flat]
  by_cases hp : p / 2 = i
  · rw [if_pos hp]
    have hc : p % 2 = 0 ∨ p % 2 = 1 := by omega
    rcases hc with hc | hc
    · rw [hc, if_neg (by omega), if_pos (by omega)]; rfl
    · rw [hc, if_pos (by omega)]; rfl
  · rw [if_neg hp, if_neg (by omega), if_neg (by omega)]
theorem St.put_only (w : World) (g i : Nat) (m : St) : Only g w (St.put w g i m) := (((Only.refl g w).set _ _).set _ _)
def St.agg (m : St) : Value := .agg #[m.d, .int .i32 m.loc]
def St.mz (n : Nat) : Array Value := madeCells #[.nilIface, .int .i32 0] (n * 2)
theorem St.mz_size (n : Nat) : (St.mz n).size = n * 2 := by simp [St.mz, size_madeCells]
theorem St.mz_get (n p : Nat) (hp : p < n * 2) : (St.mz n)[p]? = some (St.flat (fun _ => ⟨.nilIface, 0⟩) p) := by
  have hc : p % 2 = 0 ∨ p % 2 = 1 := by omega
  simp only [St.mz, madeCells, St.flat]
  rw [Array.getElem?_map, Array.getElem?_range, if_pos hp]
  simp only [Option.map_some, List.size_toArray, List.length_cons, List.length_nil, Nat.zero_add, Nat.reduceAdd]
  rcases hc with hc | hc <;> rw [hc] <;> rfl
theorem St.mz_row (n : Nat) (w : World) : RowG (w.alloc (.cells (St.mz n) 161)) w.heap.size 161 (n * 2) (St.flat fun _ => ⟨.nilIface, 0⟩) := by
  have h := RowG.made w 161 (St.mz n) (St.flat fun _ => ⟨.nilIface, 0⟩) (fun p hp => St.mz_get n p (by rw [St.mz_size] at hp; exact hp))
  rw [St.mz_size] at h
  exact h

theorem St.info : (Try.prog.info? 161).map (fun i => (i.zero.map (·.cells), i.size, i.bytes)) = some (some #[.nilIface, .int .i32 0], 2, 24) := by kernel_rfl
theorem St.made (n : Nat) (hn : n ≤ 1048576) (w : World) : (Instr.makeSlice 30 (.int .i64 n) (.int .i64 n)).run Try.prog w = .ok (.slice (some ⟨w.heap.size, 0, none⟩) n n) (w.alloc (.cells (St.mz n) 161)) := by
  obtain ⟨i, hi, hz⟩ := Option.map_eq_some_iff.1 St.info
  simp only [Prod.mk.injEq] at hz
  obtain ⟨h1, h2, h3⟩ := hz
  obtain ⟨z, hz, hzc⟩ := Option.map_eq_some_iff.1 h1
  have hr := run_make (P := Try.prog) w 30 161 i z Try.underlying30 hi hz .i64 .i64 n n (by omega) (Int.le_refl _) (by rw [h3]; omega) (by omega)
  simp only [Int.toNat_natCast, h2, hzc] at hr
  exact hr


theorem localStmt (w : World) (k : Int) : Calls Try.prog 10 #[.int .u8 k] w fun e w' => ∃ p, e = .returned (.agg #[.iface 165 (.pointer (some ⟨p, 0, none⟩)), .int .i32 0]) ∧ w.heap.size ≤ p ∧ w'.cell? ⟨p, 1, none⟩ = some (.int .u8 k) ∧ Below w.heap.size w w' := by
  go_enter Try.func10, Try.ntmps10
  go_wp2
  refine bodyPost_ret (by simp [results, Try.results10, go_sem]; rfl) rfl ?_
  refine ⟨w.heap.size + 1, rfl, by omega, ?_, ((Below.refl _ _).alloc (Nat.le_refl _) _).alloc (by simp) _⟩
  go_simp
theorem exprStmt (w : World) : Calls Try.prog 11 #[] w fun e w' => ∃ p, e = .returned (.agg #[.iface 171 (.pointer p), .int .i32 0]) ∧ Below w.heap.size w w' := by
  go_enter Try.func11, Try.ntmps11
  go_wp2
  refine bodyPost_ret (by simp [results, Try.results11, go_sem]; rfl) rfl ?_
  exact ⟨_, rfl, ((Below.refl _ _).alloc (Nat.le_refl _) _).alloc (by simp) _⟩

/-- A slice of n elements, V i at place i; of an empty one nothing is said. -/
def Row (w : World) (a : Option Addr) (n : Nat) (V : Nat → Value) : Prop := 0 < n → ∃ b off, a = some ⟨b, off, none⟩ ∧ ∀ i, i < n → w.cell? ⟨b, off + i, none⟩ = some (V i)
theorem Row.below {w w' : World} {a : Option Addr} {n : Nat} {V : Nat → Value} (h : Row w a n V) (hb : Below w.heap.size w w') : Row w' a n V := by
  intro h0
  obtain ⟨b, off, rfl, hc⟩ := h h0
  refine ⟨b, off, rfl, fun i hi => ?_⟩
  have h1 := hc i hi
  exact (hb.cell (p := ⟨b, off + i, none⟩) (block_lt_of_cell h1)).trans h1

/-- The statement that code c stands for, behind the value v; its node lies behind block B. -/
def Stm (B : Nat) (w : World) (v : Value) (c : Int) : Prop :=
  (c.tmod 8 ≤ 4 ∧ ∃ p, B < p ∧ v = .iface 165 (.pointer (some ⟨p, 0, none⟩)) ∧ w.cell? ⟨p, 1, none⟩ = some (.int .u8 (c.tmod 8))) ∨ (4 < c.tmod 8 ∧ ∃ p, v = .iface 171 (.pointer p))
theorem Stm.below {B : Nat} {w w' : World} {v : Value} {c : Int} (h : Stm B w v c) (hb : Below w.heap.size w w') : Stm B w' v c := by
  rcases h with ⟨h1, p, h2, h3, h4⟩ | h
  · exact .inl ⟨h1, p, h2, h3, (hb.cell (p := ⟨p, 1, none⟩) (block_lt_of_cell h4)).trans h4⟩
  · exact .inr h
theorem Stm.only {B : Nat} {w w' : World} {v : Value} {c : Int} (h : Stm B w v c) (hb : Only B w w') : Stm B w' v c := by
  rcases h with ⟨h1, p, h2, h3, h4⟩ | h
  · exact .inl ⟨h1, p, h2, h3, (World.cell?_of_block (w := w) (hb.2.1 p (by omega))).trans h4⟩
  · exact .inr h
/-- Row B of statements, the first k of which are those of the codes Z. -/
def Stms (w0 : World) (B n k : Nat) (Z : Nat → Int) (w : World) : Prop :=
  ∃ Fn : Nat → St, RowG w B 161 (n * 2) (St.flat Fn) ∧ Below B w0 w ∧ ∀ i, i < k → Stm B w (Fn i).d (Z i)
theorem Stms.step {w0 w w1 : World} {B n k : Nat} {Z : Nat → Int} {m : St} (h : Stms w0 B n k Z w) (hb : Below w.heap.size w w1) (hm : Stm B w1 m.d (Z k)) (hB : B ≤ w.heap.size) : Stms w0 B n (k + 1) Z (St.put w1 B k m) := by
  obtain ⟨Fn, h1, h2, h3⟩ := h
  have h1' := h1.below hb h1.lt
  refine ⟨_, St.put_row h1' k m, (h2.trans (hb.mono hB)).trans ((St.put_only w1 B k m).2.2 B (Nat.le_refl _)), fun i hi => ?_⟩
  by_cases e : i = k
  · subst e; rw [if_pos rfl]; exact hm.only (St.put_only _ _ _ _)
  · rw [if_neg e]; exact ((h3 i (by omega)).below hb).only (St.put_only _ _ _ _)

def Listed (w : World) (n : Nat) (Z : Nat → Int) (e : Ending) (w' : World) : Prop := ∃ B, e = .returned (.slice (some ⟨B, 0, none⟩) n n) ∧ B = w.heap.size ∧ Stms w B n n Z w'

set_option maxHeartbeats 4000000 in
theorem stmts (w : World) (a : Option Addr) (len cap : Nat) (Z : Nat → Int) (hl : len ≤ 1048576) (hZ : ∀ i, 0 ≤ Z i ∧ Z i < 256) (hc : Row w a len fun i => .int .u8 (Z i)) :
    Calls Try.prog 8 #[.slice a len cap] w (Listed w len Z) := by
  have HC := Lib.hid hc
  have HZ := Lib.hid hZ
  clear hc hZ
  have hmk := St.made len hl w
  go_enter Try.func8, Try.ntmps8
  go_wp2
  have h0 : Stms w w.heap.size len 0 Z (w.alloc (.cells (St.mz len) 161)) := ⟨_, St.mz_row len w, (Below.refl _ _).alloc (Nat.le_refl _) _, by intro i hi; omega⟩
  have H0 := Lib.hid h0
  clear h0 hmk
  generalize hg : w.heap.size = B at *
  generalize w.alloc (.cells (St.mz len) 161) = w2 at *
  have HG := Lib.hid hg
  clear hg
  go_loopw [4] (fun v wr => ∃ k : Nat, k ≤ len ∧ v = .int .i64 k ∧ Stms w B len k Z wr) (fun v _ => len - (intOf v).toNat)
  case atStart => exact ⟨0, by omega, rfl, H0.out⟩
  case round =>
    obtain ⟨k, hk, rfl, hR⟩ := hrel
    have HR := Lib.hid hR
    clear hR
    by_cases hlt : k < len
    · obtain ⟨Fn, hrow, hbel, _⟩ := HR.out
      have hBl : B < wr.heap.size := hrow.lt
      have hbel' : Below w.heap.size w wr := by rw [HG.out]; exact hbel
      obtain ⟨b, off, rfl, hcell⟩ := (HC.out.below hbel') (by omega)
      have c1 := hcell k hlt
      have HROW := Lib.hid hrow
      clear hcell hrow hbel hbel'
      obtain ⟨z1, z2⟩ := HZ.out k
      have hr : (Z k).tmod 8 = 0 ∨ (Z k).tmod 8 = 1 ∨ (Z k).tmod 8 = 2 ∨ (Z k).tmod 8 = 3 ∨ (Z k).tmod 8 = 4 ∨ 4 < (Z k).tmod 8 := by
        rw [Int.tmod_eq_emod_of_nonneg z1]; omega
      rcases hr with r | r | r | r | r | r
      · go_wp2_with fail
        refine (localStmt wr 0).mono ?_
        rintro e w1 ⟨p, rfl, hp, hcp, hb⟩
        have hrow1 := HROW.out.below hb hBl
        obtain ⟨d0, d1⟩ := St.cells hrow1 hlt
        have ff := hrow1.frozen
        have HB1 := Lib.hid hb
        have HCP := Lib.hid hcp
        clear hb hcp hrow1
        go_simp
        go_wp2_with fail
        go_roundw
        case rel => exact ⟨k + 1, by omega, by go_num, HR.out.step (m := ⟨.iface 165 (.pointer (some ⟨p, 0, none⟩)), 0⟩) HB1.out (.inl ⟨by omega, p, by omega, rfl, by rw [r]; exact HCP.out⟩) (by omega)⟩
        case measure => simp [intOf]; omega
      · go_wp2_with fail
        refine (localStmt wr 1).mono ?_
        rintro e w1 ⟨p, rfl, hp, hcp, hb⟩
        have hrow1 := HROW.out.below hb hBl
        obtain ⟨d0, d1⟩ := St.cells hrow1 hlt
        have ff := hrow1.frozen
        have HB1 := Lib.hid hb
        have HCP := Lib.hid hcp
        clear hb hcp hrow1
        go_simp
        go_wp2_with fail
        go_roundw
        case rel => exact ⟨k + 1, by omega, by go_num, HR.out.step (m := ⟨.iface 165 (.pointer (some ⟨p, 0, none⟩)), 0⟩) HB1.out (.inl ⟨by omega, p, by omega, rfl, by rw [r]; exact HCP.out⟩) (by omega)⟩
        case measure => simp [intOf]; omega
      · go_wp2_with fail
        refine (localStmt wr 2).mono ?_
        rintro e w1 ⟨p, rfl, hp, hcp, hb⟩
        have hrow1 := HROW.out.below hb hBl
        obtain ⟨d0, d1⟩ := St.cells hrow1 hlt
        have ff := hrow1.frozen
        have HB1 := Lib.hid hb
        have HCP := Lib.hid hcp
        clear hb hcp hrow1
        go_simp
        go_wp2_with fail
        go_roundw
        case rel => exact ⟨k + 1, by omega, by go_num, HR.out.step (m := ⟨.iface 165 (.pointer (some ⟨p, 0, none⟩)), 0⟩) HB1.out (.inl ⟨by omega, p, by omega, rfl, by rw [r]; exact HCP.out⟩) (by omega)⟩
        case measure => simp [intOf]; omega
      · go_wp2_with fail
        refine (localStmt wr 3).mono ?_
        rintro e w1 ⟨p, rfl, hp, hcp, hb⟩
        have hrow1 := HROW.out.below hb hBl
        obtain ⟨d0, d1⟩ := St.cells hrow1 hlt
        have ff := hrow1.frozen
        have HB1 := Lib.hid hb
        have HCP := Lib.hid hcp
        clear hb hcp hrow1
        go_simp
        go_wp2_with fail
        go_roundw
        case rel => exact ⟨k + 1, by omega, by go_num, HR.out.step (m := ⟨.iface 165 (.pointer (some ⟨p, 0, none⟩)), 0⟩) HB1.out (.inl ⟨by omega, p, by omega, rfl, by rw [r]; exact HCP.out⟩) (by omega)⟩
        case measure => simp [intOf]; omega
      · go_wp2_with fail
        refine (localStmt wr 4).mono ?_
        rintro e w1 ⟨p, rfl, hp, hcp, hb⟩
        have hrow1 := HROW.out.below hb hBl
        obtain ⟨d0, d1⟩ := St.cells hrow1 hlt
        have ff := hrow1.frozen
        have HB1 := Lib.hid hb
        have HCP := Lib.hid hcp
        clear hb hcp hrow1
        go_simp
        go_wp2_with fail
        go_roundw
        case rel => exact ⟨k + 1, by omega, by go_num, HR.out.step (m := ⟨.iface 165 (.pointer (some ⟨p, 0, none⟩)), 0⟩) HB1.out (.inl ⟨by omega, p, by omega, rfl, by rw [r]; exact HCP.out⟩) (by omega)⟩
        case measure => simp [intOf]; omega
      · have e8 : (Z k).tmod 8 = Z k % 8 := Int.tmod_eq_emod_of_nonneg z1
        have q0 : ¬ Z k % 8 = 0 := by rw [← e8]; omega
        have q1 : ¬ Z k % 8 = 1 := by rw [← e8]; omega
        have q2 : ¬ Z k % 8 = 2 := by rw [← e8]; omega
        have q3 : ¬ Z k % 8 = 3 := by rw [← e8]; omega
        have q4 : ¬ Z k % 8 = 4 := by rw [← e8]; omega
        have HRR := Lib.hid r
        clear r e8
        go_wp2_with fail
        refine (exprStmt wr).mono ?_
        rintro e w1 ⟨p, rfl, hb⟩
        have hrow1 := HROW.out.below hb hBl
        obtain ⟨d0, d1⟩ := St.cells hrow1 hlt
        have ff := hrow1.frozen
        have HB1 := Lib.hid hb
        clear hb hrow1
        go_simp
        go_wp2_with fail
        go_roundw
        case rel => exact ⟨k + 1, by omega, by go_num, HR.out.step (m := ⟨.iface 171 (.pointer p), 0⟩) HB1.out (.inr ⟨HRR.out, p, rfl⟩) (by omega)⟩
        case measure => simp [intOf]; omega
    · obtain rfl : k = len := by omega
      go_wp2_with fail
      go_ret
      exact ⟨B, rfl, HG.out.symm, HR.out⟩
end Go.Proofs.Ytfkeeainklbfbaa.us
