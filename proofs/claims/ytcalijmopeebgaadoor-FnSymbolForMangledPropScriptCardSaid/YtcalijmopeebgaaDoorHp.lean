/-
  Mangled properties: the law's helpers; a new parser.
-/
import Derived.Test.YtcalijmopeebgaaDoorSm
import Derived.Laws.CopyRow
import Derived.Laws.IdiomCopy
namespace Go.Proofs.YtcalijmopeebgaaDoor.mp
open Go.ChangeShapes Go.WideShapes Go.ChangeAt Go.RowKit Go.Deep Go.Proofs.YtcalijmopeebgaaDoor.mk
set_option linter.unusedVariables false
set_option linter.unusedSimpArgs false
/-- A slice of n elements, V i at place i; of an empty one nothing is said. -/
def Row (w : World) (a : Option Addr) (n : Nat) (V : Nat → Value) : Prop := 0 < n → ∃ b off, a = some ⟨b, off, none⟩ ∧ ∀ i, i < n → w.cell? ⟨b, off + i, none⟩ = some (V i)
theorem Row.below {w w' : World} {a : Option Addr} {n : Nat} {V : Nat → Value} (h : Row w a n V) (hb : Below w.heap.size w w') : Row w' a n V := by
  intro h0
  obtain ⟨b, off, rfl, hc⟩ := h h0
  refine ⟨b, off, rfl, fun i hi => ?_⟩
  have h1 := hc i hi
  exact (hb.cell (p := ⟨b, off + i, none⟩) (block_lt_of_cell h1)).trans h1
theorem Row.of_cells {w : World} {a : Addr} {n m : Nat} {V : Nat → Value} (hn : n ≤ m) (h : ∀ i, i < m → w.cell? (a.add i) = some (V i)) : Row w (some a) n V := by
  intro h0
  obtain ⟨b, off, spot⟩ := a
  have hspot : spot = none := by simpa [Addr.add] using World.cell?_spot (h 0 (by omega))
  subst hspot
  exact ⟨b, off, rfl, fun j hj => by rw [← Go.WideShapes.add_plain]; exact h j (by omega)⟩
/-- What a walk is told of a slice of strings that came in. -/
def IsStrs (w : World) (a : Option Addr) (len cap : Nat) (Z : Nat → ByteArray) : Prop :=
  (a = none → len = 0 ∧ cap = 0) ∧ len ≤ maxLen ∧ Row w a len (fun i => .string (Z i)) ∧ ∀ i, (Z i).size ≤ maxLen
theorem IsStrs.nil (w : World) : IsStrs w none 0 0 (fun _ => ByteArray.empty) := ⟨fun _ => ⟨rfl, rfl⟩, by unfold maxLen; omega, fun h => by omega, fun i => by simp⟩
theorem IsStrs.mk {w : World} {a : Addr} {len cap : Nat} {zs : List ByteArray} (hl : len ≤ cap) (hm : cap ≤ maxLen) (hz : zs.length = cap)
    (h : ∀ i, i < zs.length → w.cell? (a.add i) = some (.string (zs.getD i ByteArray.empty))) (hwz : ∀ s ∈ zs, s.size ≤ maxLen) : IsStrs w (some a) len cap (fun i => zs.getD i ByteArray.empty) := by
  refine ⟨by simp, by omega, Row.of_cells (V := fun i => .string (zs.getD i ByteArray.empty)) (by omega) h, fun i => ?_⟩
  show (zs.getD i ByteArray.empty).size ≤ maxLen
  rw [List.getD_eq_getElem?_getD]
  cases e : zs[i]? with
  | none => simp
  | some s => exact hwz s (List.mem_of_getElem? e)

def SomeBool (w : World) (e : Ending) (w' : World) : Prop := (∃ b, e = .returned (.bool b)) ∧ w' = w

set_option maxHeartbeats 1000000 in
theorem bytes5 (w : World) (a : Option Addr) (len cap : Nat) (V : Nat → ByteArray) (dead : Bool) (src : Int) (hc : Row w a len fun i => .string (V i)) :
    Calls Tryd.prog 5 #[.slice a len cap, .bool dead] w (SomeBool w) := by
  have HC := Lib.hid hc
  clear hc
  by_cases g1 : len ≤ 1048576
  rotate_left
  · go_enter Tryd.func5, Tryd.ntmps5
    go_wp2
    go_ret
    exact ⟨⟨_, rfl⟩, rfl⟩
  go_enter Tryd.func5, Tryd.ntmps5
  go_wp2
  go_loopw [5, 6] (fun n i wr => ∃ (k : Nat) (c : Int), k ≤ len ∧ i = .int .i64 k ∧ n = .int .i64 c ∧ w = wr) (fun n i _ => len - (intOf i).toNat)
  case atStart => exact ⟨0, _, by omega, rfl, rfl, rfl⟩
  case round =>
    obtain ⟨k, c, hk, rfl, rfl, rfl⟩ := hrel
    by_cases hlt : k < len
    · obtain ⟨b, off, rfl, hcell⟩ := HC.out (by omega)
      have c1 := hcell k hlt
      clear hcell
      go_wp2
      · go_ret
        exact ⟨⟨_, rfl⟩, rfl⟩
      · go_ret
        exact ⟨⟨_, rfl⟩, rfl⟩
      · go_roundw
        case rel => exact ⟨k + 1, _, by omega, by go_num, rfl, trivial⟩
        case measure => simp [intOf]; omega
    · obtain rfl : k = len := by omega
      go_wp2
      all_goals
        go_ret
        exact ⟨⟨_, rfl⟩, rfl⟩

set_option maxHeartbeats 1000000 in
theorem bytes12 (w : World) (a : Option Addr) (len cap : Nat) (V : Nat → ByteArray) (dead : Bool) (src : Int) (hc : Row w a len fun i => .string (V i)) :
    Calls Tryd.prog 12 #[.slice a len cap, .bool dead, .int .u32 src] w (SomeBool w) := by
  have HC := Lib.hid hc
  clear hc
  by_cases g1 : len ≤ 1048576
  rotate_left
  · go_enter Tryd.func12, Tryd.ntmps12
    go_wp2
    go_ret
    exact ⟨⟨_, rfl⟩, rfl⟩
  go_enter Tryd.func12, Tryd.ntmps12
  go_wp2
  go_loopw [7, 8] (fun n i wr => ∃ (k : Nat) (c : Int), k ≤ len ∧ i = .int .i64 k ∧ n = .int .i64 c ∧ w = wr) (fun n i _ => len - (intOf i).toNat)
  case atStart => exact ⟨0, _, by omega, rfl, rfl, rfl⟩
  case round =>
    obtain ⟨k, c, hk, rfl, rfl, rfl⟩ := hrel
    by_cases hlt : k < len
    · obtain ⟨b, off, rfl, hcell⟩ := HC.out (by omega)
      have c1 := hcell k hlt
      clear hcell
      go_wp2
      · go_ret
        exact ⟨⟨_, rfl⟩, rfl⟩
      · go_ret
        exact ⟨⟨_, rfl⟩, rfl⟩
      · go_roundw
        case rel => exact ⟨k + 1, _, by omega, by go_num, rfl, trivial⟩
        case measure => simp [intOf]; omega
    · obtain rfl : k = len := by omega
      go_wp2
      all_goals
        go_ret
        exact ⟨⟨_, rfl⟩, rfl⟩

set_option maxHeartbeats 1000000 in
theorem total6 (w : World) (a : Option Addr) (len cap : Nat) (V : Nat → ByteArray) (hl : len ≤ 65536) (hc : Row w a len fun i => .string (V i)) :
    Calls Tryd.prog 6 #[.slice a len cap] w (fun e w' => (∃ c, e = .returned (.int .i64 c)) ∧ w' = w) := by
  have HC := Lib.hid hc
  clear hc
  go_enter Tryd.func6, Tryd.ntmps6
  go_wp2
  go_loopw [3, 4] (fun n i wr => ∃ (k : Nat) (c : Int), k ≤ len ∧ i = .int .i64 k ∧ n = .int .i64 c ∧ w = wr) (fun n i _ => len - (intOf i).toNat)
  case atStart => exact ⟨0, _, by omega, rfl, rfl, rfl⟩
  case round =>
    obtain ⟨k, c, hk, rfl, rfl, rfl⟩ := hrel
    by_cases hlt : k < len
    · obtain ⟨b, off, rfl, hcell⟩ := HC.out (by omega)
      have c1 := hcell k hlt
      clear hcell
      go_wp2
      go_roundw
      case rel => exact ⟨k + 1, _, by omega, by go_num, rfl, trivial⟩
      case measure => simp [intOf]; omega
    · obtain rfl : k = len := by omega
      go_wp2
      go_ret
      exact ⟨⟨_, rfl⟩, rfl⟩
theorem info9 : (Tryd.prog.info? 9).map (fun i => (i.zero, i.size, i.bytes)) = some (some (Value.string ByteArray.empty), 1, 16) := by kernel_rfl
theorem size9 : (Tryd.prog.info? 9).map (·.size) = some 1 := by kernel_rfl
theorem copy7 (w : World) (x : Addr) (len cap : Nat) (V : Nat → ByteArray) (hc : Row w (some x) len fun i => .string (V i)) :
    ∃ w2, (∀ ty, (Builtin.copy_ #[22, 22] ty #[.slice (some ⟨w.heap.size, 0, none⟩) len len, .slice (some x) len cap]).run Tryd.prog (w.alloc (.cells (madeCells #[.string ByteArray.empty] len) 9)) = .ok (.int .i64 len) w2) ∧
      Row w2 (some ⟨w.heap.size, 0, none⟩) len (fun i => .string (V i)) ∧ Below w.heap.size w w2 := by
  have hb0 : Below w.heap.size w (w.alloc (.cells (madeCells #[.string ByteArray.empty] len) 9)) := (Below.refl _ _).alloc (Nat.le_refl _) _
  by_cases h0 : len = 0
  · subst h0
    exact ⟨_, fun ty => run_copy_none _ 22 22 ty 9 _ _ 0 0 0 cap Tryd.underlying22 size9 rfl, fun h => by omega, hb0⟩
  · obtain ⟨b, off, e, hcell⟩ := hc (by omega)
    cases e
    have hg : (w.alloc (.cells (madeCells #[.string ByteArray.empty] len) 9)).heap[w.heap.size]? = some (.cells (madeCells #[.string ByteArray.empty] len) 9 (0, 0)) := heap_alloc_new w _
    have hsz : (madeCells #[Value.string ByteArray.empty] len).size = len := by simp [madeCells]
    have hlen : ((List.range len).map fun i => Value.string (V i)).length = len := by simp
    have hrun := fun ty => run_copy_row (P := Tryd.prog) (w.alloc (.cells (madeCells #[.string ByteArray.empty] len) 9)) 22 22 ty 9 w.heap.size 0 len len ⟨b, off, none⟩ len cap _ 9 ((List.range len).map fun i => Value.string (V i)) Tryd.underlying22 size9 hg (by simp) (fun j v hj => by
      have hjl : j < len := by
        rcases Nat.lt_or_ge j len with h | h
        · exact h
        · rw [List.getElem?_eq_none (by simpa using h)] at hj; cases hj
      have hv : v = .string (V j) := by simpa [hjl] using hj.symm
      subst hv
      rw [Go.WideShapes.add_plain]
      exact (hb0.cell (p := ⟨b, off + j, none⟩) (block_lt_of_cell (hcell j hjl))).trans (hcell j hjl)) (by omega) (by intro v hv; simp only [List.mem_map] at hv; obtain ⟨i, _, rfl⟩ := hv; rfl)
    rw [hlen] at hrun
    have hrow : ((madeCells #[Value.string ByteArray.empty] len).toList.take 0 ++ ((List.range len).map fun i => Value.string (V i)) ++ (madeCells #[Value.string ByteArray.empty] len).toList.drop (0 + len)).toArray = ((List.range len).map fun i => Value.string (V i)).toArray := by
      rw [List.drop_eq_nil_of_le (by simp [hsz])]; simp
    rw [hrow] at hrun
    refine ⟨_, hrun, fun _ => ⟨_, _, rfl, fun i hi => ?_⟩, hb0.trans ⟨rfl, rfl, rfl, by simp [World.setRow], fun k hk => setRow_other _ _ k _ (by omega)⟩⟩
    have hh : ((w.alloc (.cells (madeCells #[.string ByteArray.empty] len) 9)).setRow w.heap.size ((List.range len).map fun i => Value.string (V i)).toArray).heap[w.heap.size]? = some (.cells ((List.range len).map fun i => Value.string (V i)).toArray 9 (0, 0)) := setRow_heap _ _ _ _ _ _ hg
    rw [cell_of_row _ _ _ _ _ _ hh]
    simp [hi]
def CloneP (w : World) (len : Nat) (V : Nat → ByteArray) (e : Ending) (w' : World) : Prop := ∃ a c, e = .returned (.slice a len c) ∧ Row w' a len (fun i => .string (V i)) ∧ Below w.heap.size w w' ∧ ∀ b off s, a = some ⟨b, off, s⟩ → w.heap.size ≤ b
set_option maxHeartbeats 1000000 in
theorem clone7 (w : World) (a : Option Addr) (len cap : Nat) (V : Nat → ByteArray) (hl : len ≤ 65536) (hn : a = none → len = 0 ∧ cap = 0) (hc : Row w a len fun i => .string (V i)) :
    Calls Tryd.prog 7 #[.slice a len cap] w (CloneP w len V) := by
  have hnil := fun (w : World) (a : Option Addr) (n c : Nat) => Lib.run_eql_slice_nil (P := Tryd.prog) w 22 9 a n c 0 0 Tryd.underlying22
  rcases a with _ | x
  · obtain ⟨rfl, rfl⟩ := hn rfl
    clear hn hc
    go_enter Tryd.func7, Tryd.ntmps7
    go_wp2
    go_ret
    exact ⟨_, _, rfl, fun h => by omega, Below.refl _ _, fun b off s e => by cases e⟩
  · obtain ⟨w2, hcopy, hrow, hbel⟩ := copy7 w x len cap V hc
    have HR := Lib.hid hrow
    have HB := Lib.hid hbel
    have hmk := run_make_row' (P := Tryd.prog) 22 9 (.string ByteArray.empty) 16 Tryd.underlying22 info9 rfl .i64 .i64 len (by omega) (by omega) w
    clear hn hc hrow hbel
    go_enter Tryd.func7, Tryd.ntmps7
    go_wp2
    go_ret
    exact ⟨_, _, rfl, HR.out, HB.out, fun b off s e => by cases e; exact Nat.le_refl _⟩
/-- The cells of a literal of type 161: the named fields as given, all else zero. -/
noncomputable def pc  : Array Value := (Tryd.prog.built 161 []).getD #[]
theorem pc_built  : Tryd.prog.built 161 [] = some (pc ) := by kernel_rfl
theorem pc_wp {o : Oper} {a : Act} {w : World} {K : Act → World → Prop} {Q : Exit → Act → World → Prop} (ho : o.op = .build 161 #[]) 
    (h : K (a.put o.dst (.agg (pc ))) w) : o.wp Tryd.prog a w K Q := by
  refine wp_build 161 _ ho ?_ ?_
  · simp only [List.map_toArray, List.map_nil, pc_built]; rfl
  · simp only [List.map_toArray, List.map_nil, pc_built, Option.getD_some]; exact h

theorem pc_350  : (pc )[350]? = some (.bool false) := by kernel_rfl
theorem pc_32  : (pc )[32]? = some (.bool false) := by kernel_rfl
theorem pc_66  : (pc )[66]? = some (.int .u32 0) := by kernel_rfl
theorem pc_103  : (pc )[103]? = some (.slice none 0 0) := by kernel_rfl
theorem pc_106  : (pc )[106]? = some (.slice none 0 0) := by kernel_rfl
theorem pc_114  : (pc )[114]? = some (.map none) := by kernel_rfl

theorem sset {A : Array Value} {i j : Nat} {v u : Value} (h : A[i]? = some v) (hij : i ≠ j) : (A.setIfInBounds j u)[i]? = some v := (Array.getElem?_setIfInBounds_ne (fun e => hij e.symm)).trans h
theorem sself {A : Array Value} {i : Nat} {v u : Value} (h : A[i]? = some v) : (A.setIfInBounds i u)[i]? = some u := Array.getElem?_setIfInBounds_self_of_lt (Array.getElem?_eq_some_iff.1 h).1
def NewM (w : World) (src : Int) (dead : Bool) (ia ib : Int) (e : Ending) (w' : World) : Prop := e = .returned (.pointer (some ⟨w.heap.size, 0, none⟩)) ∧ Mp w' w.heap.size src dead ia ib [] (.slice none 0 0) none ∧ Below w.heap.size w w'
theorem mp_new (w : World) (A : Array Value) (t : TypeId) (src : Int) (dead : Bool) (ia ib : Int) (hI : Inv w ia ib) (h0 : A[350]? = some (.bool dead)) (h1 : A[32]? = some (.bool false)) (h2 : A[66]? = some (.int .u32 src)) (h3 : A[103]? = some (.slice none 0 0)) (h4 : A[106]? = some (.slice none 0 0)) (h5 : A[114]? = some (.map none)) :
    Mp (w.alloc (.cells A t)) w.heap.size src dead ia ib [] (.slice none 0 0) none := by
  have hb : (w.alloc (.cells A t)).heap[w.heap.size]? = some (.cells A t (0, 0)) := heap_alloc_new w _
  have c : ∀ j, (w.alloc (.cells A t)).cell? ⟨w.heap.size, j, none⟩ = A[j]? := fun j => cell_of_row _ _ j _ _ _ hb
  have f : ∀ j, (w.alloc (.cells A t)).frozen? ⟨w.heap.size, j, none⟩ = false := fun j => frozen_of_row _ _ j _ _ hb
  have hz := hI.lt
  have e0 : (w.alloc (.cells A t)).heap[0]? = w.heap[0]? := Below.heap_alloc _ _ _ hz
  exact ⟨⟨(c _).trans h0, (c _).trans h1, (c _).trans h2, (c _).trans h3, (c _).trans h4, (c _).trans h5, f _, f _⟩, ⟨(World.cell?_of_block (a := ⟨0, 0, none⟩) e0).trans hI.1, (World.cell?_of_block (a := ⟨0, 1, none⟩) e0).trans hI.2⟩, ⟨rfl, .inl ⟨rfl, rfl⟩⟩, .inl ⟨rfl, rfl⟩, by simp [Value.ownBlock], by simp, fun b e => (by cases e), ⟨by omega, by simp [Value.ownBlock], by simp⟩⟩
set_option maxRecDepth 100000 in
set_option maxHeartbeats 4000000 in
theorem new8 (w : World) (dead : Bool) (src : Int) (ia ib : Int) (hI : Inv w ia ib) : Calls Tryd.prog 8 #[.bool dead, .int .u32 src] w (NewM w src dead ia ib) := by
  have HI := Lib.hid hI
  have p1 := pc_106
  have p3 := pc_350
  have p4 := pc_66
  clear hI
  go_enter Tryd.func8, Tryd.ntmps8
  go_wp2_with fail
  refine pc_wp rfl ?_
  go_simp
  go_wp2_with fail
  go_ret
  refine ⟨rfl, mp_new w _ _ src dead ia ib HI.out ?_ ?_ ?_ ?_ ?_ ?_, (Below.refl _ _).alloc (Nat.le_refl _) _⟩
  · exact sset (sself pc_350) (by omega)
  · exact sset (sset pc_32 (by omega)) (by omega)
  · exact sself (sset pc_66 (by omega))
  · exact sset (sset pc_103 (by omega)) (by omega)
  · exact sset (sset pc_106 (by omega)) (by omega)
  · exact sset (sset pc_114 (by omega)) (by omega)
end Go.Proofs.YtcalijmopeebgaaDoor.mp
