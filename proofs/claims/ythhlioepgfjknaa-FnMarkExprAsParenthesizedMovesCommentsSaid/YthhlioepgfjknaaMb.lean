/-
  Comments: the lists of strings.
-/
import Derived.Test.YthhlioepgfjknaaMk
import Derived.OpenShut
import Derived.ChangeOld
import Derived.Lib.Hide
import Derived.WalkLawsBesides
import Derived.Deep.OwnRows
import Derived.Laws.Rows
import Derived.WalkSpells
import Derived.Laws.Tables
import Derived.WalkSmall
import Derived.Outline
import Derived.BigQuiet
import Derived.Deep.QuietTactic
import Derived.Deep.RegionLaw
import Derived.Deep.AppendLies
import Derived.Maps.AppendAt
import Derived.Laws.MakeOwn
import Derived.IntWalk
import Derived.Deep.CutBlock
import Derived.OwnWalk

namespace Go.Proofs.Ythhlioepgfjknaa.ma
open Go.ChangeShapes Go.WideShapes Go.ChangeAt Go.RowKit Go.Deep Go.Proofs.Ythhlioepgfjknaa.mk
set_option linter.unusedVariables false
set_option linter.unusedSimpArgs false
set_option maxRecDepth 100000
set_option maxHeartbeats 4000000
/-- A slice of n elements, V i at place i; of an empty one nothing is said. -/
def Row (w : World) (a : Option Addr) (n : Nat) (V : Nat → Value) : Prop := 0 < n → ∃ b off, a = some ⟨b, off, none⟩ ∧ ∀ i, i < n → w.cell? ⟨b, off + i, none⟩ = some (V i)
theorem Row.below {w w' : World} {a : Option Addr} {n : Nat} {V : Nat → Value} (h : Row w a n V) (hb : Below w.heap.size w w') : Row w' a n V := by
  intro h0
  obtain ⟨b, off, rfl, hc⟩ := h h0
  refine ⟨b, off, rfl, fun i hi => ?_⟩
  have h1 := hc i hi
  exact (hb.cell (p := ⟨b, off + i, none⟩) (block_lt_of_cell h1)).trans h1
theorem Row.of_cells {w : World} {a : Addr} {n m : Nat} {V : Nat → Value} (hn : n ≤ m) (h : ∀ i, i < m → w.cell? (a.add i) = some (V i)) : Row w (some a) n V := by
  intro h0
  obtain ⟨b, off, spot⟩ := a
  have hspot : spot = none := by simpa [Addr.add] using World.cell?_spot (h 0 (by omega))
  subst hspot
  exact ⟨b, off, rfl, fun j hj => by rw [← Go.WideShapes.add_plain]; exact h j (by omega)⟩
/-- What a walk is told of a slice of strings that came in. -/
def IsStrs (w : World) (a : Option Addr) (len cap : Nat) (Z : Nat → ByteArray) : Prop :=
  (a = none → len = 0 ∧ cap = 0) ∧ len ≤ maxLen ∧ Row w a len (fun i => .string (Z i)) ∧ ∀ i, (Z i).size ≤ maxLen
theorem IsStrs.nil (w : World) : IsStrs w none 0 0 (fun _ => ByteArray.empty) := ⟨fun _ => ⟨rfl, rfl⟩, by unfold maxLen; omega, fun h => by omega, fun i => by simp⟩
theorem IsStrs.mk {w : World} {a : Addr} {len cap : Nat} {zs : List ByteArray} (hl : len ≤ cap) (hm : cap ≤ maxLen) (hz : zs.length = cap)
    (h : ∀ i, i < zs.length → w.cell? (a.add i) = some (.string (zs.getD i ByteArray.empty))) (hwz : ∀ s ∈ zs, s.size ≤ maxLen) : IsStrs w (some a) len cap (fun i => zs.getD i ByteArray.empty) := by
  refine ⟨by simp, by omega, Row.of_cells (V := fun i => .string (zs.getD i ByteArray.empty)) (by omega) h, fun i => ?_⟩
  show (zs.getD i ByteArray.empty).size ≤ maxLen
  rw [List.getD_eq_getElem?_getD]
  cases e : zs[i]? with
  | none => simp
  | some s => exact hwz s (List.mem_of_getElem? e)
/-- n cells, of which the first k are V's and the rest z. -/
def fillA (V : Nat → Value) (z : Value) (k n : Nat) : Array Value := (Array.range n).map (fun i => if i < k then V i else z)
theorem size_fillA (V : Nat → Value) (z : Value) (k n : Nat) : (fillA V z k n).size = n := by simp [fillA]
theorem get_fillA (V : Nat → Value) (z : Value) (k n i : Nat) (h : i < n) : (fillA V z k n)[i]? = some (if i < k then V i else z) := by
  simp [fillA, h]
theorem fillA_zero (V : Nat → Value) (z : Value) (n : Nat) : madeCells #[z] n = fillA V z 0 n := by
  simp [fillA, madeCells, Nat.mod_one]
theorem fillA_step (V : Nat → Value) (z : Value) (k n : Nat) (h : k < n) : (fillA V z k n).setIfInBounds k (V k) = fillA V z (k + 1) n := by
  apply Array.ext
  · simp [size_fillA]
  · intro i h1 h2
    have hi : i < n := by simpa [size_fillA] using h2
    rw [Array.getElem_setIfInBounds (by simpa [size_fillA] using hi)]
    simp only [fillA, Array.getElem_map, Array.getElem_range]
    by_cases hk : k = i
    · subst hk; simp
    · rw [if_neg hk]
      by_cases h3 : i < k
      · rw [if_pos h3, if_pos (by omega)]
      · rw [if_neg h3, if_neg (by omega)]
theorem fillA_full (V : Nat → Value) (z : Value) (n : Nat) : fillA V z n n = (Array.range n).map V := by
  apply Array.ext
  · simp [fillA]
  · intro i h1 h2
    have hi : i < n := by simpa using h2
    simp [fillA, hi]

/-- The cells of a slice: V i at place i; of an empty slice nothing is said. -/
def Cells (w : World) (a : Addr) (n : Nat) (V : Nat → Value) : Prop := (0 < n → a.spot = none) ∧ ∀ i, i < n → w.cell? ⟨a.block, a.off + i, none⟩ = some (V i)
theorem Cells.below {w w' : World} {a : Addr} {n : Nat} {V : Nat → Value} (h : Cells w a n V) (hb : Below w.heap.size w w') : Cells w' a n V := by
  refine ⟨h.1, fun i hi => ?_⟩
  have h1 := h.2 i hi
  have hlt : a.block < w.heap.size := block_lt_of_cell (a := ⟨a.block, a.off + i, none⟩) h1
  exact (hb.cell (p := ⟨a.block, a.off + i, none⟩) hlt).trans h1
theorem Cells.alloc {w : World} {a : Addr} {n : Nat} {V : Nat → Value} (h : Cells w a n V) (o : Obj) : Cells (w.alloc o) a n V := h.below ((Below.refl _ _).alloc (Nat.le_refl _) _)
theorem Cells.made (w : World) (n : Nat) (V : Nat → Value) (e : TypeId) : Cells (w.alloc (.cells ((Array.range n).map V) e)) ⟨w.heap.size, 0, none⟩ n V := by
  refine ⟨fun _ => rfl, fun i hi => ?_⟩
  have h := cell_of_row (w.alloc (.cells ((Array.range n).map V) e)) w.heap.size i _ _ _ (heap_alloc_new w _)
  simp only [Nat.zero_add]
  rw [h]
  simp [hi]

theorem info9 : (Try.prog.info? 9).map (fun i => (i.zero, i.size, i.bytes)) = some (some (Value.string ByteArray.empty), 1, 16) := by kernel_rfl

set_option maxHeartbeats 1000000 in
theorem cloneS_main (w : World) (b off : Nat) (len cap : Nat) (V : Nat → ByteArray) (hl : len ≤ 1048576) (hc : Cells w ⟨b, off, none⟩ len fun i => Value.string (V i)) :
    Calls Try.prog 13 #[.slice (some ⟨b, off, none⟩) len cap] w fun e w' => e = .returned (.slice (some ⟨w.heap.size, 0, none⟩) len len) ∧
      w.alloc (.cells ((Array.range len).map fun i => Value.string (V i)) 9) = w' := by
  have HC := Lib.hid hc
  clear hc
  have hmk := run_make_row' (P := Try.prog) 37 9 (Value.string ByteArray.empty) 16 Try.underlying37 info9 rfl .i64 .i64 len (by omega) (by omega) w
  rw [fillA_zero (fun i => Value.string (V i))] at hmk
  have hnil := fun (w : World) (a : Option Addr) (n c : Nat) => Lib.run_eql_slice_nil (P := Try.prog) w 37 9 a n c 0 0 Try.underlying37
  go_enter Try.func13, Try.ntmps13
  go_wp2
  go_loopw [4] (fun i wr => ∃ k : Nat, k ≤ len ∧ i = .int .i64 k ∧ w.alloc (.cells (fillA (fun i => Value.string (V i)) (Value.string ByteArray.empty) k len) 9) = wr) (fun i _ => len - (intOf i).toNat)
  case atStart => exact ⟨0, by omega, rfl, rfl⟩
  case round =>
    obtain ⟨k, hk, rfl, rfl⟩ := hrel
    clear hmk
    by_cases hlt : k < len
    · have c1 : w.cell? ⟨b, off + k, none⟩ = some (Value.string (V k)) := HC.out.2 k hlt
      have hbl : b < w.heap.size := block_lt_of_cell (a := ⟨b, off + k, none⟩) c1
      have c2 : (fillA (fun i => Value.string (V i)) (Value.string ByteArray.empty) k len)[k]? = some (Value.string ByteArray.empty) := by rw [get_fillA _ _ _ _ _ hlt, if_neg (by omega)]
      have HF := Lib.hid (fillA_step (fun i => Value.string (V i)) (Value.string ByteArray.empty) k len hlt)
      go_wp2
      go_roundw
      case rel => exact ⟨k + 1, by omega, by go_num, by rw [← HF.out]⟩
      case measure => simp [intOf]; omega
    · obtain rfl : k = len := by omega
      rw [fillA_full]
      go_wp2
      go_ret
      exact ⟨rfl, rfl⟩

set_option maxHeartbeats 1000000 in
theorem cloneS_zero (w : World) (x : Addr) (cap : Nat) :
    Calls Try.prog 13 #[.slice (some x) 0 cap] w fun e w' => e = .returned (.slice (some ⟨w.heap.size, 0, none⟩) 0 0) ∧ w.alloc (.cells #[] 9) = w' := by
  have hmk := run_make_row' (P := Try.prog) 37 9 (Value.string ByteArray.empty) 16 Try.underlying37 info9 rfl .i64 .i64 0 (by omega) (by omega) w
  rw [show madeCells #[Value.string ByteArray.empty] 0 = #[] by simp [madeCells], show ((0 : Nat) : Int) = 0 from rfl] at hmk
  have hnil := fun (w : World) (a : Option Addr) (n c : Nat) => Lib.run_eql_slice_nil (P := Try.prog) w 37 9 a n c 0 0 Try.underlying37
  go_enter Try.func13, Try.ntmps13
  go_wp2
  go_loopw [4] (fun i wr => i = .int .i64 0 ∧ w.alloc (.cells #[] 9) = wr) (fun i _ => 0)
  case atStart => exact ⟨rfl, rfl⟩
  case round =>
    obtain ⟨rfl, rfl⟩ := hrel
    clear hmk
    go_wp2
    go_ret
    exact ⟨rfl, rfl⟩

theorem cloneS (w : World) (x : Addr) (len cap : Nat) (V : Nat → ByteArray) (hl : len ≤ 1048576) (hc : Cells w x len fun i => Value.string (V i)) :
    Calls Try.prog 13 #[.slice (some x) len cap] w fun e w' => e = .returned (.slice (some ⟨w.heap.size, 0, none⟩) len len) ∧
      w.alloc (.cells ((Array.range len).map fun i => Value.string (V i)) 9) = w' := by
  by_cases h0 : len = 0
  · subst h0
    rw [show ((Array.range 0).map fun i => Value.string (V i)) = #[] by simp]
    exact cloneS_zero w x cap
  · obtain ⟨b, off, sp⟩ := x
    obtain rfl : sp = none := hc.1 (by omega)
    exact cloneS_main w b off len cap V hl hc

theorem cloneS_nil (w : World) : Calls Try.prog 13 #[.slice none 0 0] w fun e w' => e = .returned (.slice none 0 0) ∧ w = w' := by
  have hnil := fun (w : World) (a : Option Addr) (n c : Nat) => Lib.run_eql_slice_nil (P := Try.prog) w 37 9 a n c 0 0 Try.underlying37
  go_enter Try.func13, Try.ntmps13
  go_wp2
  go_ret
  exact ⟨rfl, rfl⟩


/-- A list of strings that the walk owns. -/
def strs (n : Nat) (z : Nat → ByteArray) : List Value := (List.range n).map fun i => .string (z i)
theorem strs_len (n : Nat) (z : Nat → ByteArray) : (strs n z).length = n := by simp [strs]
theorem strs_get {n : Nat} {z : Nat → ByteArray} {i : Nat} (h : i < n) : (strs n z)[i]? = some (.string (z i)) := by simp [strs, h]
theorem strs_succ (n : Nat) (z : Nat → ByteArray) : strs (n + 1) z = strs n z ++ [.string (z n)] := by simp [strs, List.range_succ]
theorem strs_one (n : Nat) (z : Nat → ByteArray) : ∀ u ∈ strs n z, u.oneCell' = true := by
  intro u hu
  obtain ⟨i, _, rfl⟩ := List.mem_map.1 hu
  rfl
def cat (za : Nat → ByteArray) (na : Nat) (zb : Nat → ByteArray) (i : Nat) : ByteArray := if i < na then za i else zb (i - na)
theorem strs_congr {n : Nat} {z y : Nat → ByteArray} (h : ∀ i, i < n → z i = y i) : strs n z = strs n y := by
  unfold strs
  apply List.map_congr_left
  intro i hi
  rw [h i (by simpa using hi)]
theorem strs_cat (na nb : Nat) (za zb : Nat → ByteArray) : strs na za ++ strs nb zb = strs (na + nb) (cat za na zb) := by
  apply List.ext_getElem?
  intro i
  by_cases h : i < na
  · rw [List.getElem?_append_left (by rw [strs_len]; exact h), strs_get h, strs_get (by omega)]
    unfold cat; rw [if_pos h]
  · rw [List.getElem?_append_right (by rw [strs_len]; omega), strs_len]
    by_cases h2 : i < na + nb
    · rw [strs_get (by omega), strs_get h2]
      unfold cat; rw [if_neg h]
    · rw [List.getElem?_eq_none (by rw [strs_len]; omega), List.getElem?_eq_none (by rw [strs_len]; omega)]
def Sl (w : World) (B : Nat) (v : Value) (n : Nat) (z : Nat → ByteArray) : Prop := w.ownsRow B 9 1 v n (strs n z)
theorem Sl.form {w : World} {B n : Nat} {v : Value} {z : Nat → ByteArray} (h : Sl w B v n z) : ∃ a c, v = .slice a n c ∧ Row w a n (fun i => .string (z i)) ∧ (a = none → n = 0 ∧ c = 0) := by
  rcases h.2 with ⟨rfl, rfl⟩ | ⟨g, cap, cur, rfl, hg, hb, hnc, hcm, hsz, htk⟩
  · exact ⟨none, 0, rfl, fun h => by omega, fun _ => ⟨rfl, rfl⟩⟩
  · refine ⟨_, cap, rfl, fun h0 => ⟨g, 0, rfl, fun i hi => ?_⟩, (fun h => by cases h)⟩
    rw [cell_of_row _ _ (0 + i) _ _ _ hb, Nat.zero_add]
    have h1 : (cur.toList.take (n * 1))[i]? = some (.string (z i)) := by rw [htk]; exact strs_get hi
    rw [List.getElem?_take, if_pos (by omega)] at h1
    simpa using h1
theorem Sl.of_block {w w' : World} {B n : Nat} {v : Value} {z : Nat → ByteArray} (h : Sl w B v n z) (hb : ∀ g, v.ownBlock = some g → w'.heap[g]? = w.heap[g]?) : Sl w' B v n z := by
  refine ⟨h.1, ?_⟩
  rcases h.2 with ⟨rfl, h0⟩ | ⟨g, cap, cur, rfl, hg, hbk, r⟩
  · exact .inl ⟨rfl, h0⟩
  · exact .inr ⟨g, cap, cur, rfl, hg, (hb g rfl).trans hbk, r⟩
theorem Sl.own {w : World} {B n : Nat} {v : Value} {z : Nat → ByteArray} (h : Sl w B v n z) {g : Nat} (e : v.ownBlock = some g) : B ≤ g ∧ g < w.heap.size := by
  rcases h.2 with ⟨rfl, h0⟩ | ⟨g', cap, cur, rfl, hg, hbk, r⟩
  · cases e
  · simp only [Value.ownBlock, Option.some.injEq] at e
    subst e
    exact ⟨hg, lt_of_block hbk⟩
theorem Sl.below {w w' : World} {B n : Nat} {v : Value} {z : Nat → ByteArray} (h : Sl w B v n z) (hb : Below w.heap.size w w') : Sl w' B v n z := h.of_block fun g e => hb.block g (h.own e).2
theorem Sl.base {w : World} {B B' n : Nat} {v : Value} {z : Nat → ByteArray} (h : Sl w B v n z) (hB : B' ≤ B) : Sl w B' v n z := by
  refine ⟨h.1, ?_⟩
  rcases h.2 with h0 | ⟨g, cap, cur, hv, hg, r⟩
  · exact .inl h0
  · exact .inr ⟨g, cap, cur, hv, by omega, r⟩
theorem Sl.nil (w : World) (B : Nat) (z : Nat → ByteArray) : Sl w B (.slice none 0 0) 0 z := ⟨by simp [strs], .inl ⟨rfl, rfl⟩⟩
theorem info9i : ∃ i z, Try.prog.info? 9 = some i ∧ i.zero = some z ∧ z.cells.size = 1 ∧ i.size = 1 ∧ i.bytes = 16 := by
  obtain ⟨i, hi, hz⟩ := Option.map_eq_some_iff.1 info9
  simp only [Prod.mk.injEq] at hz
  obtain ⟨h1, h2, h3⟩ := hz
  exact ⟨i, _, hi, h1, by simp [Value.cells], h2, h3⟩
/-- Whatever is appended to a list of one's own. -/
theorem Sl.app {w : World} {B n m c : Nat} {v : Value} {z y : Nat → ByteArray} {A : Option Addr} (h : Sl w B v n z) (hr : Row w A m (fun i => .string (y i))) (hA : A = none → m = 0) (hn : n + m ≤ 1048576) (hB : B ≤ w.heap.size) :
    ∃ v' w', (Builtin.append_ #[37, 37] 37 #[v, .slice A m c]).run Try.prog w = .ok v' w' ∧ Sl w' B v' (n + m) (cat z n y) ∧ w.grownBy w' v.ownBlock ∧ (v'.ownBlock = v.ownBlock ∨ v'.ownBlock = some w.heap.size) := by
  obtain ⟨i, z0, e1, e2, e3, e4, e5⟩ := info9i
  have hnil : ∀ (B : Nat) (A : Option Addr), m = 0 → A = none → (Builtin.append_ #[37, 37] 37 #[v, .slice A m c]).run Try.prog w = .ok v w := by
    rintro _ _ rfl rfl
    rcases h.2 with ⟨rfl, rfl⟩ | ⟨g, cap, cur, rfl, _, _, hnc, _⟩
    · simp [Builtin.append_, run_underlying Try.underlying37, sizeOf, typeInfo, e1, Builtin.lenOf, Builtin.firstCells]
    · simp [Builtin.append_, run_underlying Try.underlying37, sizeOf, typeInfo, e1, Builtin.lenOf, Builtin.firstCells, hnc, storeCells]
  cases A with
  | none =>
    have hm := hA rfl
    subst hm
    refine ⟨v, w, hnil B none rfl rfl, ?_, World.grownBy.refl w _, .inl rfl⟩
    have e : strs n z = strs n (cat z n y) := strs_congr fun i hi => by unfold cat; rw [if_pos hi]
    unfold Sl
    rw [Nat.add_zero, ← e]
    exact h
  | some ad =>
    have hcells : ∀ j u, (strs m y)[j]? = some u → w.cell? (ad.add j) = some u := by
      intro j u hu
      by_cases hj : j < m
      · obtain ⟨b, off, hb, hc⟩ := hr (by omega)
        cases hb
        rw [strs_get hj] at hu
        rw [Go.WideShapes.add_plain, hc j hj]
        exact hu
      · rw [List.getElem?_eq_none (by rw [strs_len]; omega)] at hu
        cases hu
    obtain ⟨v', w', hrun, h2, h3, _, h5⟩ := run_append_own_at (P := Try.prog) w B 37 37 9 i z0 1 16 Try.underlying37 e1 e2 e4 e5 e3 (by decide) v n (strs n z) h ad m c (strs m y) (by rw [strs_len]; omega) hcells (strs_one m y) (by unfold maxLen; omega) (by omega) hB
    rw [strs_cat] at h2
    exact ⟨v', w', hrun, h2, h3, h5⟩
end Go.Proofs.Ythhlioepgfjknaa.ma
