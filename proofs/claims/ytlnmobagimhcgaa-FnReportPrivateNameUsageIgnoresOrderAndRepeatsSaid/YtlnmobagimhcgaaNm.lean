/-
  Contracts of the helpers of the statements on reported private names.
-/
import Derived.Test.YtlnmobagimhcgaaRows
import Derived.WalkKit
import Derived.ProofKit
import Derived.OpenShut
import Derived.ShutString
import Derived.Lib.Hide
import Derived.WalkLawsBesides
import Derived.Deep.OwnRows
import Derived.Laws.Rows
import Derived.OneCell
import Derived.Below
import Derived.WalkSpells
import Derived.Laws.Tables
import Derived.WalkSmall
import Derived.Maps.Own
import Derived.Maps.OwnOps
import Derived.Maps.OwnSet
import Derived.Maps.Ext
import Derived.Deep.AppendLies

namespace Go.Proofs.Ytlnmobagimhcgaa.nm
open Go.ChangeShapes Go.WideShapes Go.ChangeAt Go.RowKit Go.Deep Go.Maps
set_option linter.unusedVariables false

/-- n cells, of which the first k are V's and the rest z. -/
def fillA (V : Nat → Value) (z : Value) (k n : Nat) : Array Value := (Array.range n).map (fun i => if i < k then V i else z)
theorem size_fillA (V : Nat → Value) (z : Value) (k n : Nat) : (fillA V z k n).size = n := by simp [fillA]
theorem get_fillA (V : Nat → Value) (z : Value) (k n i : Nat) (h : i < n) : (fillA V z k n)[i]? = some (if i < k then V i else z) := by
  simp [fillA, h]
theorem fillA_zero (V : Nat → Value) (z : Value) (n : Nat) : madeCells #[z] n = fillA V z 0 n := by
  simp [fillA, madeCells, Nat.mod_one]
theorem fillA_step (V : Nat → Value) (z : Value) (k n : Nat) (h : k < n) : (fillA V z k n).setIfInBounds k (V k) = fillA V z (k + 1) n := by
  apply Array.ext
  · simp [size_fillA]
  · intro i h1 h2
    have hi : i < n := by simpa [size_fillA] using h2
    rw [Array.getElem_setIfInBounds (by simpa [size_fillA] using hi)]
    simp only [fillA, Array.getElem_map, Array.getElem_range]
    by_cases hk : k = i
    · subst hk; simp
    · rw [if_neg hk]
      by_cases h3 : i < k
      · rw [if_pos h3, if_pos (by omega)]
      · rw [if_neg h3, if_neg (by omega)]
theorem fillA_full (V : Nat → Value) (z : Value) (n : Nat) : fillA V z n n = (Array.range n).map V := by
  apply Array.ext
  · simp [fillA]
  · intro i h1 h2
    have hi : i < n := by simpa using h2
    simp [fillA, hi]

/-- The cells of a slice: V i at place i; of an empty slice nothing is said. -/
def Cells (w : World) (a : Addr) (n : Nat) (V : Nat → Value) : Prop := (0 < n → a.spot = none) ∧ ∀ i, i < n → w.cell? ⟨a.block, a.off + i, none⟩ = some (V i)
theorem Cells.below {w w' : World} {a : Addr} {n : Nat} {V : Nat → Value} (h : Cells w a n V) (hb : Below w.heap.size w w') : Cells w' a n V := by
  refine ⟨h.1, fun i hi => ?_⟩
  have h1 := h.2 i hi
  have hlt : a.block < w.heap.size := block_lt_of_cell (a := ⟨a.block, a.off + i, none⟩) h1
  exact (hb.cell (p := ⟨a.block, a.off + i, none⟩) hlt).trans h1
theorem Cells.alloc {w : World} {a : Addr} {n : Nat} {V : Nat → Value} (h : Cells w a n V) (o : Obj) : Cells (w.alloc o) a n V := h.below ((Below.refl _ _).alloc (Nat.le_refl _) _)
theorem Cells.made (w : World) (n : Nat) (V : Nat → Value) (e : TypeId) : Cells (w.alloc (.cells ((Array.range n).map V) e)) ⟨w.heap.size, 0, none⟩ n V := by
  refine ⟨fun _ => rfl, fun i hi => ?_⟩
  have h := cell_of_row (w.alloc (.cells ((Array.range n).map V) e)) w.heap.size i _ _ _ (heap_alloc_new w _)
  simp only [Nat.zero_add]
  rw [h]
  simp [hi]

theorem info9 : (Try.prog.info? 9).map (fun i => (i.zero, i.size, i.bytes)) = some (some (Value.string ByteArray.empty), 1, 16) := by kernel_rfl

set_option maxHeartbeats 1000000 in
theorem clone_main (w : World) (b off : Nat) (len cap : Nat) (V : Nat → ByteArray) (hl : len ≤ 1048576) (hc : Cells w ⟨b, off, none⟩ len fun i => Value.string (V i)) :
    Calls Try.prog 7 #[.slice (some ⟨b, off, none⟩) len cap] w fun e w' => e = .returned (.slice (some ⟨w.heap.size, 0, none⟩) len len) ∧
      w.alloc (.cells ((Array.range len).map fun i => Value.string (V i)) 9) = w' := by
  have HC := Lib.hid hc
  clear hc
  have hmk := run_make_row' (P := Try.prog) 22 9 (Value.string ByteArray.empty) 16 Try.underlying22 info9 rfl .i64 .i64 len (by omega) (by omega) w
  rw [fillA_zero (fun i => Value.string (V i))] at hmk
  have hnil := fun (w : World) (a : Option Addr) (n c : Nat) => Lib.run_eql_slice_nil (P := Try.prog) w 22 9 a n c 0 0 Try.underlying22
  go_enter Try.func7, Try.ntmps7
  go_wp2
  go_loopw [4] (fun i wr => ∃ k : Nat, k ≤ len ∧ i = .int .i64 k ∧ w.alloc (.cells (fillA (fun i => Value.string (V i)) (Value.string ByteArray.empty) k len) 9) = wr) (fun i _ => len - (intOf i).toNat)
  case atStart => exact ⟨0, by omega, rfl, rfl⟩
  case round =>
    obtain ⟨k, hk, rfl, rfl⟩ := hrel
    clear hmk
    by_cases hlt : k < len
    · have c1 : w.cell? ⟨b, off + k, none⟩ = some (Value.string (V k)) := HC.out.2 k hlt
      have hbl : b < w.heap.size := block_lt_of_cell (a := ⟨b, off + k, none⟩) c1
      have c2 : (fillA (fun i => Value.string (V i)) (Value.string ByteArray.empty) k len)[k]? = some (Value.string ByteArray.empty) := by rw [get_fillA _ _ _ _ _ hlt, if_neg (by omega)]
      have HF := Lib.hid (fillA_step (fun i => Value.string (V i)) (Value.string ByteArray.empty) k len hlt)
      go_wp2
      go_roundw
      case rel => exact ⟨k + 1, by omega, by go_num, by rw [← HF.out]⟩
      case measure => simp [intOf]; omega
    · obtain rfl : k = len := by omega
      rw [fillA_full]
      go_wp2
      go_ret
      exact ⟨rfl, rfl⟩

set_option maxHeartbeats 1000000 in
theorem clone_zero (w : World) (x : Addr) (cap : Nat) :
    Calls Try.prog 7 #[.slice (some x) 0 cap] w fun e w' => e = .returned (.slice (some ⟨w.heap.size, 0, none⟩) 0 0) ∧ w.alloc (.cells #[] 9) = w' := by
  have hmk := run_make_row' (P := Try.prog) 22 9 (Value.string ByteArray.empty) 16 Try.underlying22 info9 rfl .i64 .i64 0 (by omega) (by omega) w
  rw [show madeCells #[Value.string ByteArray.empty] 0 = #[] by simp [madeCells], show ((0 : Nat) : Int) = 0 from rfl] at hmk
  have hnil := fun (w : World) (a : Option Addr) (n c : Nat) => Lib.run_eql_slice_nil (P := Try.prog) w 22 9 a n c 0 0 Try.underlying22
  go_enter Try.func7, Try.ntmps7
  go_wp2
  go_loopw [4] (fun i wr => i = .int .i64 0 ∧ w.alloc (.cells #[] 9) = wr) (fun i _ => 0)
  case atStart => exact ⟨rfl, rfl⟩
  case round =>
    obtain ⟨rfl, rfl⟩ := hrel
    clear hmk
    go_wp2
    go_ret
    exact ⟨rfl, rfl⟩

theorem clone (w : World) (x : Addr) (len cap : Nat) (V : Nat → ByteArray) (hl : len ≤ 1048576) (hc : Cells w x len fun i => Value.string (V i)) :
    Calls Try.prog 7 #[.slice (some x) len cap] w fun e w' => e = .returned (.slice (some ⟨w.heap.size, 0, none⟩) len len) ∧
      w.alloc (.cells ((Array.range len).map fun i => Value.string (V i)) 9) = w' := by
  by_cases h0 : len = 0
  · subst h0
    rw [show ((Array.range 0).map fun i => Value.string (V i)) = #[] by simp]
    exact clone_zero w x cap
  · obtain ⟨b, off, sp⟩ := x
    obtain rfl : sp = none := hc.1 (by omega)
    exact clone_main w b off len cap V hl hc

theorem clone_nil (w : World) : Calls Try.prog 7 #[.slice none 0 0] w fun e w' => e = .returned (.slice none 0 0) ∧ w = w' := by
  have hnil := fun (w : World) (a : Option Addr) (n c : Nat) => Lib.run_eql_slice_nil (P := Try.prog) w 22 9 a n c 0 0 Try.underlying22
  go_enter Try.func7, Try.ntmps7
  go_wp2
  go_ret
  exact ⟨rfl, rfl⟩

/-- The cells of a literal of type 158: the named fields as given, all else zero. -/
noncomputable def pc (n : Int) : Array Value := (Try.prog.built 158 [(69, .int .i64 n)]).getD #[]
theorem pc_built (n : Int) : Try.prog.built 158 [(69, .int .i64 n)] = some (pc n) := by kernel_rfl
theorem pc_wp {o : Oper} {a : Act} {w : World} {K : Act → World → Prop} {Q : Exit → Act → World → Prop} (x0 : Operand) (ho : o.op = .build 158 #[(69, x0)]) (n : Int) (h0 : a.eval x0 = .int .i64 n)
    (h : K (a.put o.dst (.agg (pc n))) w) : o.wp Try.prog a w K Q := by
  refine wp_build 158 _ ho ?_ ?_
  · simp only [List.map_toArray, List.map_cons, List.map_nil, pc_built, h0]; rfl
  · simp only [List.map_toArray, List.map_cons, List.map_nil, pc_built, h0, Option.getD_some]; exact h

theorem pc_286 (n : Int) : (pc n)[286]? = some (.int .i64 n) := by kernel_rfl
theorem pc_197 (n : Int) : (pc n)[197]? = some (.map none) := by kernel_rfl

/-! ### what a set of names holds -/
open Classical in
noncomputable def isIn (s : ByteArray) (L : List ByteArray) : Bool := decide (s ∈ L)
theorem isIn_iff {s : ByteArray} {L : List ByteArray} : isIn s L = true ↔ s ∈ L := by simp [isIn]
theorem isIn_nil (s : ByteArray) : isIn s [] = false := by simp [isIn]
theorem isIn_same (s : ByteArray) (L : List ByteArray) : isIn s (L ++ [s]) = true := by simp [isIn]
theorem isIn_other {s x : ByteArray} (L : List ByteArray) (h : s ≠ x) : isIn s (L ++ [x]) = isIn s L := by simp [isIn, h]
theorem snoc {α : Type} {p : List α → Prop} (h0 : p []) (h1 : ∀ L x, p L → p (L ++ [x])) : ∀ L, p L := by
  intro L
  have : ∀ M : List α, p M.reverse := by
    intro M
    induction M with
    | nil => exact h0
    | cons a M ih => rw [List.reverse_cons]; exact h1 _ _ ih
  simpa using this L.reverse
def key (s : ByteArray) : Lit := .string s.data.toList
theorem key_inj {s t : ByteArray} : key s = key t ↔ s = t := by
  constructor
  · intro h
    cases s; cases t
    simp [key] at h
    exact congrArg _ h
  · rintro rfl; rfl
abbrev tt : DataW Unit := .lit (.bool true)
abbrev ff : DataW Unit := .lit (.bool false)
def setN (L : List ByteArray) : DataW Unit := setOf tt (L.map key)
theorem isKey (L : List ByteArray) : ∀ x ∈ L.map key, WideAt.IsKeyLit x := by
  intro x hx
  obtain ⟨s, _, rfl⟩ := List.mem_map.1 hx
  exact trivial
theorem setN_snoc (L : List ByteArray) (s : ByteArray) : setN (L ++ [s]) = (setN L).put (key s) tt := by
  simp [setN, setOf_snoc]
theorem setN_tidy (L : List ByteArray) : Tidy (setN L) := tidy_setOf _ _ (isKey L)
theorem at_setN (L : List ByteArray) (s : ByteArray) : (setN L).atKey (key s) ff = .lit (.bool (isIn s L)) := by
  refine snoc (p := fun L => (setN L).atKey (key s) ff = .lit (.bool (isIn s L))) ?_ ?_ L
  · simp [setN, setOf, DataW.atKey, isIn_nil]
  · intro L x ih
    rw [setN_snoc]
    by_cases h : s = x
    · subst h
      rw [atKey_put_same (setN_tidy L).isMap (show WideAt.IsKeyLit (key _) from trivial), isIn_same]
    · rw [atKey_put_other (fun e => h (key_inj.1 e)), ih, isIn_other L h]
theorem has_setN (L : List ByteArray) (s : ByteArray) : Maps.has (setN L) (key s) = isIn s L := by
  refine snoc (p := fun L => Maps.has (setN L) (key s) = isIn s L) ?_ ?_ L
  · simp [setN, setOf, Maps.has, isIn_nil]
  · intro L x ih
    rw [setN_snoc]
    by_cases h : s = x
    · subst h
      rw [has_put_same (setN_tidy L).isMap (show WideAt.IsKeyLit (key _) from trivial), isIn_same]
    · rw [has_put_other (fun e => h (key_inj.1 e)), ih, isIn_other L h]
theorem size_setN (L : List ByteArray) (s : ByteArray) : Maps.size (setN (L ++ [s])) = Maps.size (setN L) + if isIn s L = true then 0 else 1 := by
  rw [setN_snoc, size_put (setN_tidy L), has_setN]
  cases isIn s L <;> simp

/-! ### a recorded set -/
theorem law : Keyed Try.prog 9 := string_keyed Try.underlying9
theorem zero4 (w : World) : (zeroValue 4).run Try.prog w = .ok (.bool false) w := by kernel_rfl
def MapIs (w : World) (m : Option Nat) (L : List ByteArray) : Prop :=
  (m = none ∧ L = []) ∨ ∃ b, m = some b ∧ L ≠ [] ∧ w.ownsMap Try.prog 9 (plainElem (H := Unit) Try.prog 4) b L.length (setN L)
theorem plainElem_bool_inv {v : Value} {z : DataW Unit × List MemPlace} (h : plainElem Try.prog 4 v = some z) : ∃ x, v = .bool x ∧ z = (.lit (.bool x), []) := by
  simp only [plainElem, Try.underlying4] at h
  cases v <;> simp at h
  exact ⟨_, rfl, h.symm⟩
theorem MapIs.look {w : World} {m : Option Nat} {L : List ByteArray} (h : MapIs w m L) {s : ByteArray} (hs : s.size ≤ maxLen) :
    (Instr.lookup 29 (.map m) (.string s) false).run Try.prog w = .ok (.bool (isIn s L)) w := by
  have hk : keyOf Try.prog 9 (.string s) = some (key s) := Go.WideMaps.keyOf_string_mk Try.underlying9 hs
  rcases h with ⟨rfl, rfl⟩ | ⟨b, rfl, hL, hown⟩
  · have := Maps.look_nil (P := Try.prog) (w := w) (k := 9) (t := 29) (e := 4) false law Try.underlying29 (zero4 w) hk
    rw [isIn_nil]; simpa using this
  · obtain ⟨v, ps, hrun, hv⟩ := hown.lookup law Try.underlying29 (zero4 w) (plainElem_bool Try.underlying4 false) hk
    obtain ⟨x, rfl, hx⟩ := plainElem_bool_inv hv
    rw [show (DataW.lit (.bool false) : DataW Unit) = ff from rfl, at_setN] at hx
    simp at hx
    rw [hrun, ← hx.1]
theorem MapIs.len {w : World} {m : Option Nat} {L : List ByteArray} (h : MapIs w m L) (ty : TypeId) :
    (Builtin.len_ #[29] ty #[.map m]).run Try.prog w = .ok (.int .i64 (Maps.size (setN L))) w := by
  rcases h with ⟨rfl, rfl⟩ | ⟨b, rfl, hL, hown⟩
  · rw [Maps.len_nil (P := Try.prog) Try.underlying29]; rfl
  · exact hown.len Try.underlying29 ty
theorem MapIs.isNone {w : World} {m : Option Nat} {L : List ByteArray} (h : MapIs w m L) : m.isNone = decide (L = []) := by
  rcases h with ⟨rfl, rfl⟩ | ⟨b, rfl, hL, hown⟩
  · simp
  · simp [hL]
theorem MapIs.below {w w' : World} {m : Option Nat} {L : List ByteArray} (h : MapIs w m L) (hb : Below w.heap.size w w') : MapIs w' m L := by
  rcases h with h | ⟨b, rfl, hL, hown⟩
  · exact .inl h
  · have hlt := hown.lt
    obtain ⟨es, clock, h1, h2⟩ := hown
    exact .inr ⟨b, rfl, hL, es, clock, (hb.block b hlt).trans h1, h2⟩
/-- Two sets of the same names are one. -/
theorem same_size {w1 w2 : World} {m1 m2 : Option Nat} {L1 L2 : List ByteArray} (h1 : MapIs w1 m1 L1) (h2 : MapIs w2 m2 L2) (h : ∀ s, s ∈ L1 ↔ s ∈ L2) :
    Maps.size (setN L1) = Maps.size (setN L2) := by
  rcases h1 with ⟨rfl, rfl⟩ | ⟨b, rfl, hL, hown⟩
  · have : L2 = [] := by
      cases L2 with
      | nil => rfl
      | cons a l => have := (h a).2 (by simp); simp at this
    rw [this]
  · rcases h2 with ⟨rfl, rfl⟩ | ⟨b2, rfl, hL2, hown2⟩
    · cases L1 with
      | nil => rfl
      | cons a l => have := (h a).1 (by simp); simp at this
    · have c1 := hown.canon law
      have c2 := hown2.canon law
      have hk : ∀ k, Maps.has (setN L1) k = Maps.has (setN L2) k := by
        intro k
        simp only [setN, has_setOf tt k _ (isKey _)]
        rw [Bool.eq_iff_iff]
        simp only [List.any_map, List.any_eq_true, Function.comp]
        constructor
        · rintro ⟨s, hs, e⟩; exact ⟨s, (h s).1 hs, e⟩
        · rintro ⟨s, hs, e⟩; exact ⟨s, (h s).2 hs, e⟩
      have ha : ∀ (L : List ByteArray) k z, Maps.has (setN L) k = true → (setN L).atKey k z = tt := by
        intro L
        refine snoc (p := fun L => ∀ k z, Maps.has (setN L) k = true → (setN L).atKey k z = tt) ?_ ?_ L
        · intro k z h; simp [setN, setOf, Maps.has] at h
        · intro L x ih k z h
          rw [setN_snoc] at h ⊢
          by_cases e : k = key x
          · subst e
            rw [atKey_put_same (setN_tidy L).isMap (show WideAt.IsKeyLit (key _) from trivial)]
          · rw [atKey_put_other e]
            rw [has_put_other e] at h
            exact ih k z h
      rw [Maps.ext c1 c2 hk fun k z hh => by rw [ha _ k z hh, ha _ k z (by rw [← hk]; exact hh)]]

/-! ### the parser -/
/-- A parser at block g, made at or behind base B: its depth is n, its set is L. -/
def St (B : Nat) (w : World) (g : Nat) (n : Int) (L : List ByteArray) : Prop :=
  B ≤ g ∧ w.cell? ⟨g, 286, none⟩ = some (.int .i64 n) ∧ w.frozen? ⟨g, 197, none⟩ = false ∧ ∃ m, w.cell? ⟨g, 197, none⟩ = some (.map m) ∧ MapIs w m L ∧ ∀ b, m = some b → B ≤ b
theorem St.below {B : Nat} {w w' : World} {g : Nat} {n : Int} {L : List ByteArray} (h : St B w g n L) (hb : Below w.heap.size w w') : St B w' g n L := by
  obtain ⟨h1, h2, h3, m, h4, h5, h6⟩ := h
  have hl : g < w.heap.size := block_lt_of_cell h2
  exact ⟨h1, (hb.cell (p := ⟨g, 286, none⟩) hl).trans h2, (hb.frozen (p := ⟨g, 197, none⟩) hl).trans h3, m, (hb.cell (p := ⟨g, 197, none⟩) hl).trans h4, h5.below hb, h6⟩
def NewP (w : World) (n : Int) (e : Ending) (w' : World) : Prop := ∃ g, e = .returned (.pointer (some ⟨g, 0, none⟩)) ∧ St w.heap.size w' g n [] ∧ Below w.heap.size w w'

set_option maxRecDepth 100000 in
set_option maxHeartbeats 2000000 in
theorem newP (w : World) (n : Int) : Calls Try.prog 8 #[.int .i64 n] w (NewP w n) := by
  go_enter Try.func8, Try.ntmps8
  go_wp2_with fail
  refine pc_wp (n := n) _ rfl rfl ?_
  go_simp
  go_wp2_with fail
  go_ret
  refine ⟨w.heap.size, rfl, ⟨Nat.le_refl _, ?_, ?_, none, ?_, .inl ⟨rfl, rfl⟩, by simp⟩, (Below.refl _ _).alloc (Nat.le_refl _) _⟩
  · exact (cell_of_row _ _ 286 _ _ _ (heap_alloc_new w _)).trans (pc_286 n)
  · exact frozen_of_row _ _ 197 _ _ (heap_alloc_new w _)
  · exact (cell_of_row _ _ 197 _ _ _ (heap_alloc_new w _)).trans (pc_197 n)

theorem lowerAll (B : Nat) (w : World) (g : Nat) (n : Int) (L : List ByteArray) (h : St B w g n L) :
    Calls Try.prog 10 #[.pointer (some ⟨g, 0, none⟩)] w fun e w' => (∃ m, e = .returned (.map m) ∧ MapIs w m L) ∧ w = w' := by
  obtain ⟨h1, h2, h3, m, h4, h5, h6⟩ := h
  go_enter Try.func10, Try.ntmps10
  go_wp2
  go_ret
  exact ⟨⟨m, rfl, h5⟩, rfl⟩

def Rep (B : Nat) (w : World) (g : Nat) (n : Int) (L : List ByteArray) (e : Ending) (w' : World) : Prop := e = .returned (.tuple #[]) ∧ St B w' g n L ∧ Below B w w'

set_option maxRecDepth 100000 in
set_option maxHeartbeats 2000000 in
theorem rep_no (B : Nat) (w : World) (g : Nat) (n : Int) (L : List ByteArray) (s : ByteArray) (hn : ¬ 0 < n) (h : St B w g n L) :
    Calls Try.prog 9 #[.pointer (some ⟨g, 0, none⟩), .string s] w (Rep B w g n L) := by
  have H := Lib.hid h
  obtain ⟨h1, h2, h3, m, h4, h5, h6⟩ := h
  go_enter Try.func9, Try.ntmps9
  go_wp2
  go_end0
  simp only []
  go_wp2
  go_end0
  exact ⟨rfl, H.out, Below.refl _ _⟩

set_option maxRecDepth 100000 in
set_option maxHeartbeats 2000000 in
theorem rep_first (B : Nat) (w : World) (g : Nat) (n : Int) (s : ByteArray) (hs : s.size ≤ maxLen) (hn : 0 < n) (h : St B w g n []) (hB : B ≤ w.heap.size) :
    Calls Try.prog 9 #[.pointer (some ⟨g, 0, none⟩), .string s] w (Rep B w g n [s]) := by
  obtain ⟨h1, h2, h3, m, h4, h5, h6⟩ := h
  obtain rfl : m = none := by rcases h5 with h | ⟨b, rfl, hL, _⟩; exact h.1; exact absurd rfl hL
  have hm := fun (w : World) (r : Option Nat) => run_eql_map_nil (P := Try.prog) w 29 9 4 r Try.underlying29
  have hmm := @run_makeMap Try.prog
  have hk : keyOf Try.prog 9 (.string s) = some (key s) := Go.WideMaps.keyOf_string_mk Try.underlying9 hs
  have hbl : g < w.heap.size := block_lt_of_cell h2
  have hne : g ≠ w.heap.size := by omega
  have hown0 : ((w.setCell ⟨g, 197, none⟩ (.map (some w.heap.size))).alloc (.map #[] 0)).ownsMap Try.prog 9 (plainElem (H := Unit) Try.prog 4) w.heap.size 0 (setN []) := by
    have := World.ownsMap_made (w.setCell ⟨g, 197, none⟩ (.map (some w.heap.size))) Try.prog 9 (plainElem (H := Unit) Try.prog 4)
    simpa [World.setCell, setN, setOf] using this
  obtain ⟨w1, hrun, hown1, hg1⟩ := hown0.update law Try.underlying29 (by decide) hk (plainElem_bool Try.underlying4 true)
  have HO := Lib.hid hown1
  have HG := Lib.hid hg1
  clear hown1 hg1 hown0
  go_enter Try.func9, Try.ntmps9
  go_wp2
  go_end0
  simp only []
  go_wp2
  go_end0
  have hg1 := HG.out
  have bel : Below B w w1 := ((((Below.refl B w).setCell (p := ⟨g, 197, none⟩) h1 _)).alloc (by simpa [World.setCell] using hB) _).grown hg1 (by simp [World.setCell]; omega) (by rintro k ⟨⟩; exact hB)
  have hlt : g < ((w.setCell ⟨g, 197, none⟩ (.map (some w.heap.size))).alloc (.map #[] 0)).heap.size := by simp [World.setCell]; omega
  have hne' : some g ≠ some w.heap.size := by simp; omega
  refine ⟨rfl, ⟨h1, ?_, ?_, some w.heap.size, ?_, .inr ⟨_, rfl, by simp, ?_⟩, by rintro b ⟨⟩; exact hB⟩, bel⟩
  · rw [hg1.cell_far ⟨g, 286, none⟩ hlt hne']; go_simp
  · rw [hg1.frozen_far ⟨g, 197, none⟩ hlt hne']; go_simp
  · rw [hg1.cell_far ⟨g, 197, none⟩ hlt hne']; go_simp
  · have := HO.out
    rw [show [s] = [] ++ [s] from rfl, setN_snoc]
    exact this

set_option maxRecDepth 100000 in
set_option maxHeartbeats 2000000 in
theorem rep_more (B : Nat) (w : World) (g : Nat) (n : Int) (L : List ByteArray) (s : ByteArray) (hs : s.size ≤ maxLen) (hn : 0 < n) (h : St B w g n L) (hB : B ≤ w.heap.size) (hL : L ≠ []) (hl : L.length < maxLen) :
    Calls Try.prog 9 #[.pointer (some ⟨g, 0, none⟩), .string s] w (Rep B w g n (L ++ [s])) := by
  obtain ⟨h1, h2, h3, m, h4, h5, h6⟩ := h
  obtain ⟨b, rfl, hown⟩ : ∃ b, m = some b ∧ w.ownsMap Try.prog 9 (plainElem (H := Unit) Try.prog 4) b L.length (setN L) := by
    rcases h5 with h | ⟨b, rfl, _, h⟩
    · exact absurd h.2 hL
    · exact ⟨b, rfl, h⟩
  have hm := fun (w : World) (r : Option Nat) => run_eql_map_nil (P := Try.prog) w 29 9 4 r Try.underlying29
  have hk : keyOf Try.prog 9 (.string s) = some (key s) := Go.WideMaps.keyOf_string_mk Try.underlying9 hs
  have hbl : g < w.heap.size := block_lt_of_cell h2
  have hgb : g ≠ b := by
    rintro rfl
    obtain ⟨es, clock, hb, _⟩ := hown
    simp [World.cell?, hb] at h2
  obtain ⟨w1, hrun, hown1, hg1⟩ := hown.update law Try.underlying29 hl hk (plainElem_bool Try.underlying4 true)
  have HO := Lib.hid hown1
  have HG := Lib.hid hg1
  have HH := Lib.hid h6
  clear hown1 hg1 hown h5 h6 hL
  go_enter Try.func9, Try.ntmps9
  go_wp2
  go_end0
  simp only []
  go_wp2
  go_end0
  have hg1 := HG.out
  have hBb := HH.out b rfl
  have bel : Below B w w1 := (Below.refl B w).grown hg1 hB (by rintro k ⟨⟩; exact hBb)
  have hne' : some g ≠ some b := by simp; exact hgb
  refine ⟨rfl, ⟨h1, ?_, ?_, some b, ?_, .inr ⟨_, rfl, by simp, ?_⟩, by rintro b ⟨⟩; exact hBb⟩, bel⟩
  · rw [hg1.cell_far ⟨g, 286, none⟩ hbl hne']; exact h2
  · rw [hg1.frozen_far ⟨g, 197, none⟩ hbl hne']; exact h3
  · rw [hg1.cell_far ⟨g, 197, none⟩ hbl hne']; exact h4
  · rw [setN_snoc, List.length_append]
    exact HO.out

/-- What a report leaves of the set. -/
def told (n : Int) (L : List ByteArray) : List ByteArray := if 0 < n then L else []
theorem rep (B : Nat) (w : World) (g : Nat) (n : Int) (L : List ByteArray) (s : ByteArray) (hs : s.size ≤ maxLen) (h : St B w g n (told n L)) (hB : B ≤ w.heap.size) (hl : L.length < maxLen) :
    Calls Try.prog 9 #[.pointer (some ⟨g, 0, none⟩), .string s] w (Rep B w g n (told n (L ++ [s]))) := by
  unfold told at h ⊢
  by_cases hn : 0 < n
  · rw [if_pos hn] at h ⊢
    by_cases hL : L = []
    · subst hL
      exact rep_first B w g n s hs hn h hB
    · exact rep_more B w g n L s hs hn h hB hL hl
  · rw [if_neg hn] at h ⊢
    exact rep_no B w g n [] s hn h
end Go.Proofs.Ytlnmobagimhcgaa.nm
