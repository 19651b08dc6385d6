/-
  Helpers of the statements on Joiners that take a list of strings.
-/
import Derived.Test.YthcfdoaeefnemaaJd
namespace Go.Proofs.Ythcfdoaeefnemaa.jn
open Go.ChangeShapes Go.WideShapes Go.ChangeAt Go.RowKit Go.Deep Go.Lib
set_option linter.unusedVariables false
set_option linter.unusedSimpArgs false

/-- n cells, of which the first k are V's and the rest z. -/
def fillA (V : Nat → Value) (z : Value) (k n : Nat) : Array Value := (Array.range n).map (fun i => if i < k then V i else z)
theorem size_fillA (V : Nat → Value) (z : Value) (k n : Nat) : (fillA V z k n).size = n := by simp [fillA]
theorem get_fillA (V : Nat → Value) (z : Value) (k n i : Nat) (h : i < n) : (fillA V z k n)[i]? = some (if i < k then V i else z) := by
  simp [fillA, h]
theorem fillA_zero (V : Nat → Value) (z : Value) (n : Nat) : madeCells #[z] n = fillA V z 0 n := by
  simp [fillA, madeCells, Nat.mod_one]
theorem fillA_step (V : Nat → Value) (z : Value) (k n : Nat) (h : k < n) : (fillA V z k n).setIfInBounds k (V k) = fillA V z (k + 1) n := by
  apply Array.ext
  · simp [size_fillA]
  · intro i h1 h2
    have hi : i < n := by simpa [size_fillA] using h2
    rw [Array.getElem_setIfInBounds (by simpa [size_fillA] using hi)]
    simp only [fillA, Array.getElem_map, Array.getElem_range]
    by_cases hk : k = i
    · subst hk; simp
    · rw [if_neg hk]
      by_cases h3 : i < k
      · rw [if_pos h3, if_pos (by omega)]
      · rw [if_neg h3, if_neg (by omega)]
theorem fillA_full (V : Nat → Value) (z : Value) (n : Nat) : fillA V z n n = (Array.range n).map V := by
  apply Array.ext
  · simp [fillA]
  · intro i h1 h2
    have hi : i < n := by simpa using h2
    simp [fillA, hi]

/-- The cells of a slice: V i at place i; of an empty slice nothing is said. -/
def Cells (w : World) (a : Addr) (n : Nat) (V : Nat → Value) : Prop := (0 < n → a.spot = none) ∧ ∀ i, i < n → w.cell? ⟨a.block, a.off + i, none⟩ = some (V i)
theorem Cells.below {w w' : World} {a : Addr} {n : Nat} {V : Nat → Value} (h : Cells w a n V) (hb : Below w.heap.size w w') : Cells w' a n V := by
  refine ⟨h.1, fun i hi => ?_⟩
  have h1 := h.2 i hi
  have hlt : a.block < w.heap.size := block_lt_of_cell (a := ⟨a.block, a.off + i, none⟩) h1
  exact (hb.cell (p := ⟨a.block, a.off + i, none⟩) hlt).trans h1
theorem Cells.alloc {w : World} {a : Addr} {n : Nat} {V : Nat → Value} (h : Cells w a n V) (o : Obj) : Cells (w.alloc o) a n V := h.below ((Below.refl _ _).alloc (Nat.le_refl _) _)
theorem Cells.made (w : World) (n : Nat) (V : Nat → Value) (e : TypeId) : Cells (w.alloc (.cells ((Array.range n).map V) e)) ⟨w.heap.size, 0, none⟩ n V := by
  refine ⟨fun _ => rfl, fun i hi => ?_⟩
  have h := cell_of_row (w.alloc (.cells ((Array.range n).map V) e)) w.heap.size i _ _ _ (heap_alloc_new w _)
  simp only [Nat.zero_add]
  rw [h]
  simp [hi]

theorem info9 : (Try.prog.info? 9).map (fun i => (i.zero, i.size, i.bytes)) = some (some (Value.string ByteArray.empty), 1, 16) := by kernel_rfl

set_option maxHeartbeats 1000000 in
theorem clone_main (w : World) (b off : Nat) (len cap : Nat) (V : Nat → ByteArray) (hl : len ≤ 1048576) (hc : Cells w ⟨b, off, none⟩ len fun i => Value.string (V i)) :
    Calls Try.prog 9 #[.slice (some ⟨b, off, none⟩) len cap] w fun e w' => e = .returned (.slice (some ⟨w.heap.size, 0, none⟩) len len) ∧
      w.alloc (.cells ((Array.range len).map fun i => Value.string (V i)) 9) = w' := by
  have HC := Lib.hid hc
  clear hc
  have hmk := run_make_row' (P := Try.prog) 22 9 (Value.string ByteArray.empty) 16 Try.underlying22 info9 rfl .i64 .i64 len (by omega) (by omega) w
  rw [fillA_zero (fun i => Value.string (V i))] at hmk
  have hnil := fun (w : World) (a : Option Addr) (n c : Nat) => Lib.run_eql_slice_nil (P := Try.prog) w 22 9 a n c 0 0 Try.underlying22
  go_enter Try.func9, Try.ntmps9
  go_wp2
  go_loopw [4] (fun i wr => ∃ k : Nat, k ≤ len ∧ i = .int .i64 k ∧ w.alloc (.cells (fillA (fun i => Value.string (V i)) (Value.string ByteArray.empty) k len) 9) = wr) (fun i _ => len - (intOf i).toNat)
  case atStart => exact ⟨0, by omega, rfl, rfl⟩
  case round =>
    obtain ⟨k, hk, rfl, rfl⟩ := hrel
    clear hmk
    by_cases hlt : k < len
    · have c1 : w.cell? ⟨b, off + k, none⟩ = some (Value.string (V k)) := HC.out.2 k hlt
      have hbl : b < w.heap.size := block_lt_of_cell (a := ⟨b, off + k, none⟩) c1
      have c2 : (fillA (fun i => Value.string (V i)) (Value.string ByteArray.empty) k len)[k]? = some (Value.string ByteArray.empty) := by rw [get_fillA _ _ _ _ _ hlt, if_neg (by omega)]
      have HF := Lib.hid (fillA_step (fun i => Value.string (V i)) (Value.string ByteArray.empty) k len hlt)
      go_wp2
      go_roundw
      case rel => exact ⟨k + 1, by omega, by go_num, by rw [← HF.out]⟩
      case measure => simp [intOf]; omega
    · obtain rfl : k = len := by omega
      rw [fillA_full]
      go_wp2
      go_ret
      exact ⟨rfl, rfl⟩

set_option maxHeartbeats 1000000 in
theorem clone_zero (w : World) (x : Addr) (cap : Nat) :
    Calls Try.prog 9 #[.slice (some x) 0 cap] w fun e w' => e = .returned (.slice (some ⟨w.heap.size, 0, none⟩) 0 0) ∧ w.alloc (.cells #[] 9) = w' := by
  have hmk := run_make_row' (P := Try.prog) 22 9 (Value.string ByteArray.empty) 16 Try.underlying22 info9 rfl .i64 .i64 0 (by omega) (by omega) w
  rw [show madeCells #[Value.string ByteArray.empty] 0 = #[] by simp [madeCells], show ((0 : Nat) : Int) = 0 from rfl] at hmk
  have hnil := fun (w : World) (a : Option Addr) (n c : Nat) => Lib.run_eql_slice_nil (P := Try.prog) w 22 9 a n c 0 0 Try.underlying22
  go_enter Try.func9, Try.ntmps9
  go_wp2
  go_loopw [4] (fun i wr => i = .int .i64 0 ∧ w.alloc (.cells #[] 9) = wr) (fun i _ => 0)
  case atStart => exact ⟨rfl, rfl⟩
  case round =>
    obtain ⟨rfl, rfl⟩ := hrel
    clear hmk
    go_wp2
    go_ret
    exact ⟨rfl, rfl⟩

theorem clone (w : World) (x : Addr) (len cap : Nat) (V : Nat → ByteArray) (hl : len ≤ 1048576) (hc : Cells w x len fun i => Value.string (V i)) :
    Calls Try.prog 9 #[.slice (some x) len cap] w fun e w' => e = .returned (.slice (some ⟨w.heap.size, 0, none⟩) len len) ∧
      w.alloc (.cells ((Array.range len).map fun i => Value.string (V i)) 9) = w' := by
  by_cases h0 : len = 0
  · subst h0
    rw [show ((Array.range 0).map fun i => Value.string (V i)) = #[] by simp]
    exact clone_zero w x cap
  · obtain ⟨b, off, sp⟩ := x
    obtain rfl : sp = none := hc.1 (by omega)
    exact clone_main w b off len cap V hl hc

theorem clone_nil (w : World) : Calls Try.prog 9 #[.slice none 0 0] w fun e w' => e = .returned (.slice none 0 0) ∧ w = w' := by
  have hnil := fun (w : World) (a : Option Addr) (n c : Nat) => Lib.run_eql_slice_nil (P := Try.prog) w 22 9 a n c 0 0 Try.underlying22
  go_enter Try.func9, Try.ntmps9
  go_wp2
  go_ret
  exact ⟨rfl, rfl⟩


/-- What a walk is told of a slice of strings that came in. -/
def IsStrs (w : World) (a : Option Addr) (len cap : Nat) (zs : List ByteArray) : Prop :=
  (a = none → len = 0 ∧ cap = 0) ∧ len ≤ maxLen ∧ Row w a len (fun i => .string (zs.getD i ByteArray.empty)) ∧ ∀ i, (zs.getD i ByteArray.empty).size ≤ maxLen
theorem IsStrs.nil (w : World) : IsStrs w none 0 0 [] := ⟨fun _ => ⟨rfl, rfl⟩, by unfold maxLen; omega, fun h => by omega, fun i => by simp⟩
theorem IsStrs.mk {w : World} {a : Addr} {len cap : Nat} {zs : List ByteArray} (hl : len ≤ cap) (hm : cap ≤ maxLen) (hz : zs.length = cap)
    (h : ∀ i, i < zs.length → w.cell? (a.add i) = some (.string (zs.getD i ByteArray.empty))) (hwz : ∀ s ∈ zs, s.size ≤ maxLen) : IsStrs w (some a) len cap zs := by
  refine ⟨by simp, by omega, fun h0 => ?_, fun i => ?_⟩
  · obtain ⟨b, off, spot⟩ := a
    have hspot : spot = none := by simpa [Addr.add] using World.cell?_spot (h 0 (by omega))
    subst hspot
    exact ⟨b, off, rfl, fun j hj => by rw [← Go.WideShapes.add_plain]; exact h j (by omega)⟩
  · rw [List.getD_eq_getElem?_getD]
    cases e : zs[i]? with
    | none => simp
    | some s => exact hwz s (List.mem_of_getElem? e)

theorem clone_all (w : World) (a : Option Addr) (len cap : Nat) (V : Nat → ByteArray) (hl : len ≤ 1048576) (ha : a = none → len = 0 ∧ cap = 0) (hc : Row w a len fun i => .string (V i)) :
    Calls Try.prog 9 #[.slice a len cap] w fun e w' => ∃ a' c', e = .returned (.slice a' len c') ∧ Row w' a' len (fun i => .string (V i)) ∧ Below w.heap.size w w' := by
  cases a with
  | none =>
    obtain ⟨rfl, rfl⟩ := ha rfl
    refine (clone_nil w).mono ?_
    rintro e w' ⟨rfl, rfl⟩
    exact ⟨none, 0, rfl, fun h => by omega, Below.refl _ _⟩
  | some x =>
    have hcl : Cells w x len fun i => .string (V i) := by
      refine ⟨fun h0 => ?_, fun i hi => ?_⟩
      · obtain ⟨b, off, e, _⟩ := hc h0; cases e; rfl
      · obtain ⟨b, off, e, h⟩ := hc (by omega); cases e; exact h i hi
    refine (clone w x len cap V hl hcl).mono ?_
    rintro e w' ⟨rfl, rfl⟩
    refine ⟨_, _, rfl, fun h0 => ⟨_, _, rfl, fun i hi => ?_⟩, (Below.refl _ _).alloc (Nat.le_refl _) _⟩
    exact (Cells.made w len (fun i => .string (V i)) 9).2 i hi

def SomeBool (w : World) (e : Ending) (w' : World) : Prop := (∃ b, e = .returned (.bool b)) ∧ w = w'
def Yes (w : World) (e : Ending) (w' : World) : Prop := e = .returned (.bool true) ∧ Below w.heap.size w w'
def sumTo (V : Nat → ByteArray) : Nat → Nat
  | 0 => 0
  | k + 1 => sumTo V k + (V k).size
theorem sumTo_mono (V : Nat → ByteArray) {k n : Nat} (h : k ≤ n) : sumTo V k ≤ sumTo V n := by
  induction n with
  | zero => obtain rfl : k = 0 := by omega
            exact Nat.le_refl _
  | succ n ih =>
    by_cases e : k = n + 1
    · subst e; exact Nat.le_refl _
    · have := ih (by omega); simp only [sumTo]; omega
/-- The size that the statement reckons: if it is small, so are the texts. -/
def SizeP (w : World) (V : Nat → ByteArray) (len : Nat) (e : Ending) (w' : World) : Prop := (∃ c : Int, e = .returned (.int .i64 c) ∧ (c ≤ 1048576 → sumTo V len ≤ 1048576)) ∧ w = w'
theorem SizeP.big {w : World} {V : Nat → ByteArray} {len : Nat} : SizeP w V len (.returned (.int .i64 1048577)) w := ⟨⟨1048577, rfl, fun h => absurd h (by decide)⟩, rfl⟩
set_option maxRecDepth 100000 in
set_option maxHeartbeats 1000000 in
theorem size8 (w : World) (a : Option Addr) (len cap : Nat) (V : Nat → ByteArray) (hl : len ≤ 65536) (hc : Row w a len fun i => .string (V i)) :
    Calls Try.prog 8 #[.slice a len cap] w (SizeP w V len) := by
  have HC := Lib.hid hc
  clear hc
  go_enter Try.func8, Try.ntmps8
  go_wp2
  go_loopw [3, 4] (fun n i wr => ∃ (k c : Nat), k ≤ len ∧ i = .int .i64 k ∧ n = .int .i64 c ∧ sumTo V k ≤ c ∧ c ≤ 1048576 ∧ w = wr) (fun n i _ => len - (intOf i).toNat)
  case atStart => exact ⟨0, 24, by omega, rfl, rfl, by simp [sumTo], by omega, rfl⟩
  case round =>
    obtain ⟨k, c, hk, rfl, rfl, hs, hc, rfl⟩ := hrel
    by_cases hlt : k < len
    · obtain ⟨b, off, rfl, hcell⟩ := HC.out (by omega)
      have c1 := hcell k hlt
      clear hcell
      have HS := Lib.hid hs
      clear hs
      by_cases g1 : (V k).size ≤ 1048576
      · by_cases g2 : c + (V k).size + 16 ≤ 1048576
        · have t1 : decide ((1048576 : Int) < ((V k).size : Int)) = false := by simp; omega
          have t2 : decide ((1048576 : Int) < (c : Int) + (((V k).size : Int) + 16)) = false := by simp; omega
          have G1 := Lib.hid g1
          have G2 := Lib.hid g2
          have gc : (V k).size ≤ 1073741824 := by omega
          have gd : c ≤ 1073741824 := by omega
          clear g1 g2 hc
          go_wp2
          go_roundw
          case rel =>
            have hs := HS.out
            have g2 := G2.out
            exact ⟨k + 1, c + ((V k).size + 16), by omega, by go_num, by go_num, by simp only [sumTo]; omega, by omega, trivial⟩
          case measure => simp [intOf]; omega
        · have t2 : (1048576 : Int) < (c : Int) + (((V k).size : Int) + 16) := by omega
          clear g2
          go_wp2
          go_ret
          exact SizeP.big
      · have t1 : (1048576 : Int) < ((V k).size : Int) := by omega
        clear g1
        go_wp2
        go_ret
        exact SizeP.big
    · obtain rfl : k = len := by omega
      go_wp2
      go_ret
      exact ⟨⟨_, rfl, fun h => by omega⟩, rfl⟩

set_option maxHeartbeats 1000000 in
theorem bytes7 (w : World) (a : Option Addr) (len cap : Nat) (V : Nat → ByteArray) (hc : Row w a len fun i => .string (V i)) :
    Calls Try.prog 7 #[.slice a len cap] w (SomeBool w) := by
  have HC := Lib.hid hc
  clear hc
  by_cases g1 : len ≤ 1048576
  rotate_left
  · go_enter Try.func7, Try.ntmps7
    go_wp2
    go_ret
    exact ⟨⟨_, rfl⟩, rfl⟩
  go_enter Try.func7, Try.ntmps7
  go_wp2
  go_loopw [3, 4] (fun n i wr => ∃ (k : Nat) (c : Int), k ≤ len ∧ i = .int .i64 k ∧ n = .int .i64 c ∧ w = wr) (fun n i _ => len - (intOf i).toNat)
  case atStart => exact ⟨0, _, by omega, rfl, rfl, rfl⟩
  case round =>
    obtain ⟨k, c, hk, rfl, rfl, rfl⟩ := hrel
    by_cases hlt : k < len
    · obtain ⟨b, off, rfl, hcell⟩ := HC.out (by omega)
      have c1 := hcell k hlt
      clear hcell
      go_wp2
      · go_ret
        exact ⟨⟨_, rfl⟩, rfl⟩
      · go_ret
        exact ⟨⟨_, rfl⟩, rfl⟩
      · go_roundw
        case rel => exact ⟨k + 1, _, by omega, by go_num, rfl, trivial⟩
        case measure => simp [intOf]; omega
    · obtain rfl : k = len := by omega
      go_wp2
      go_ret
      exact ⟨⟨_, rfl⟩, rfl⟩

set_option maxHeartbeats 1000000 in
theorem bytes14 (w : World) (a : Option Addr) (len cap : Nat) (V : Nat → ByteArray) (hc : Row w a len fun i => .string (V i)) :
    Calls Try.prog 14 #[.slice a len cap] w (SomeBool w) := by
  have HC := Lib.hid hc
  clear hc
  by_cases g1 : len ≤ 1048576
  rotate_left
  · go_enter Try.func14, Try.ntmps14
    go_wp2
    go_ret
    exact ⟨⟨_, rfl⟩, rfl⟩
  go_enter Try.func14, Try.ntmps14
  go_wp2
  go_loopw [3, 4] (fun n i wr => ∃ (k : Nat) (c : Int), k ≤ len ∧ i = .int .i64 k ∧ n = .int .i64 c ∧ w = wr) (fun n i _ => len - (intOf i).toNat)
  case atStart => exact ⟨0, _, by omega, rfl, rfl, rfl⟩
  case round =>
    obtain ⟨k, c, hk, rfl, rfl, rfl⟩ := hrel
    by_cases hlt : k < len
    · obtain ⟨b, off, rfl, hcell⟩ := HC.out (by omega)
      have c1 := hcell k hlt
      clear hcell
      go_wp2
      · go_ret
        exact ⟨⟨_, rfl⟩, rfl⟩
      · go_ret
        exact ⟨⟨_, rfl⟩, rfl⟩
      · go_roundw
        case rel => exact ⟨k + 1, _, by omega, by go_num, rfl, trivial⟩
        case measure => simp [intOf]; omega
    · obtain rfl : k = len := by omega
      go_wp2
      go_ret
      exact ⟨⟨_, rfl⟩, rfl⟩

def Says (v : Value) (w : World) (e : Ending) (w' : World) : Prop := e = .returned v ∧ w = w'
set_option maxHeartbeats 1000000 in
theorem beq (w : World) (a b : Option Addr) (n c c' : Nat) (T : List UInt8) (hn : n ≤ 1048577) (ha : Row w a n (byteAt T)) (hb : Row w b n (byteAt T)) :
    Calls Try.prog 12 #[.slice a n c, .slice b n c'] w (fun e w' => ∃ nq, Says (.bool true) (w.drewN nq) e w') := by
  have HA := Lib.hid ha
  have HB := Lib.hid hb
  clear ha hb
  go_enter Try.func12, Try.ntmps12
  go_wp2
  go_loopw [5] (fun i wr => ∃ (k nq : Nat), k ≤ n ∧ i = .int .i64 k ∧ w.drewN nq = wr) (fun i _ => n - (intOf i).toNat)
  case atStart => exact ⟨0, 0, by omega, rfl, rfl⟩
  case round =>
    obtain ⟨k, nq, hk, rfl, rfl⟩ := hrel
    by_cases hlt : k < n
    · obtain ⟨b1, o1, rfl, h1⟩ := HA.out (by omega)
      obtain ⟨b2, o2, rfl, h2⟩ := HB.out (by omega)
      have c1 := h1 k hlt
      have c2 := h2 k hlt
      unfold byteAt at c1 c2
      generalize ((T.getD k 0).toNat : Int) = x at c1 c2
      clear h1 h2
      go_wp2
      go_quiet (fail)
      go_wp2
      go_roundw
      case rel => exact ⟨k + 1, _, by omega, by go_num, rfl⟩
      case measure => simp [intOf]; omega
    · obtain rfl : k = n := by omega
      go_wp2
      go_ret
      exact ⟨nq, rfl, rfl⟩

/-- What has been wanted so far: a slice of the call's own that holds the text T; it lies apart from a Joiner's blocks. -/
def Wt (w : World) (D g : Nat) (gs gb : Option Nat) (v : Value) (T : List UInt8) : Prop :=
  ∃ gw cap, v = .slice (some ⟨gw, 0, none⟩) T.length cap ∧ w.ownsRow D 5 1 v T.length (byteCells T) ∧ gw ≠ g ∧ gs ≠ some gw ∧ gb ≠ some gw
theorem Wt.row {w : World} {D g gw cap : Nat} {T : List UInt8} (h : w.ownsRow D 5 1 (.slice (some ⟨gw, 0, none⟩) T.length cap) T.length (byteCells T)) : Row w (some ⟨gw, 0, none⟩) T.length (byteAt T) := fun _ => ⟨gw, 0, rfl, fun i hi => by
  rw [Nat.zero_add, h.cellAt i (by omega)]
  simp [byteCells, byteAt, hi]⟩
theorem keep_row1 {w w' : World} {F : Nat → Prop} (ht : Touch F w w') {D E n : Nat} {v : Value} {xs : List Value} (ho : w.ownsRow D E 1 v n xs) (hk : ∀ k, v.ownBlock = some k → ¬ F k) : w'.ownsRow D E 1 v n xs := by
  refine ⟨ho.1, ?_⟩
  rcases ho.2 with h | ⟨g, cap, cur, rfl, hb, hh, r⟩
  · exact .inl h
  · exact .inr ⟨g, cap, cur, rfl, hb, (ht.block g (lt_of_block hh) (hk g rfl)).trans hh, r⟩
/-- A part is added to the Joiner: the wanted text stays. -/
theorem Wt.addS {w w' : World} {D g : Nat} {gs gs' gb : Option Nat} {v : Value} {T : List UInt8} (h : Wt w D g gs gb v T) (hs : gs' = gs ∨ ∃ k, gs' = some k ∧ w.heap.size ≤ k) (ht : Touch (fun j => j = g ∨ gs = some j) w w') :
    Wt w' D g gs' gb v T := by
  obtain ⟨gw, cap, rfl, h1, h2, h3, h4⟩ := h
  refine ⟨gw, cap, rfl, keep_row1 ht h1 ?_, h2, ?_, h4⟩
  · rintro k e (rfl | e2)
    · cases e; exact h2 rfl
    · cases e; exact h3 e2
  · rcases hs with rfl | ⟨k, rfl, hk⟩
    · exact h3
    · intro e; cases e; have := (h1.lt gw rfl).2; omega
theorem Wt.addB {w w' : World} {D g : Nat} {gs gb' gb : Option Nat} {v : Value} {T : List UInt8} (h : Wt w D g gs gb v T) (hs : gb' = gb ∨ ∃ k, gb' = some k ∧ w.heap.size ≤ k) (ht : Touch (fun j => j = g ∨ gb = some j) w w') :
    Wt w' D g gs gb' v T := by
  obtain ⟨gw, cap, rfl, h1, h2, h3, h4⟩ := h
  refine ⟨gw, cap, rfl, keep_row1 ht h1 ?_, h2, h3, ?_⟩
  · rintro k e (rfl | e2)
    · cases e; exact h2 rfl
    · cases e; exact h4 e2
  · rcases hs with rfl | ⟨k, rfl, hk⟩
    · exact h4
    · intro e; cases e; have := (h1.lt gw rfl).2; omega
/-- A byte is appended to the wanted text: the Joiner stays. -/
theorem Wt.push {w w2 : World} {D g gw cap gw' cap' : Nat} {gs gb : Option Nat} {S : List (ByteArray × Nat)} {Y : List BItem} {T TJ : List UInt8} {x : UInt8} {o : Obj} (hJ : Jn w D g gs gb S Y TJ)
    (h1 : w.ownsRow D 5 1 (.slice (some ⟨gw, 0, none⟩) T.length cap) T.length (byteCells T)) (h2 : gw ≠ g) (h3 : gs ≠ some gw) (h4 : gb ≠ some gw)
    (hO : w2.ownsRow D 5 1 (.slice (some ⟨gw', 0, none⟩) (T.length + 1) cap') (T.length + 1) (byteCells T ++ [.int .u8 x.toNat])) (hG : (w.alloc o).grownBy w2 (some gw)) (hA : some gw = some gw' ∨ gw' = (w.alloc o).heap.size) :
    Jn w2 D g gs gb S Y TJ ∧ Wt w2 D g gs gb (.slice (some ⟨gw', 0, none⟩) (T.length + 1) cap') (T ++ [x]) ∧ Below D w w2 := by
  have hT : Touch (fun j => j = gw) w w2 := ((Touch.refl _ w).alloc o).grown hG (fun k e _ => by cases e; rfl)
  have hgw := h1.lt gw rfl
  have hg := hJ.lt
  have hgs : ∀ k, gs = some k → k < w.heap.size := by
    obtain ⟨sv, bv, a1, a2, rfl, _⟩ := hJ
    exact fun k e => (ownBlock_lt a2 e).2
  have hgb : ∀ k, gb = some k → k < w.heap.size := by
    obtain ⟨sv, bv, a1, a2, _, a4, rfl, _⟩ := hJ
    exact fun k e => (ownBlock_lt a4 e).2
  have hs : (w.alloc o).heap.size = w.heap.size + 1 := by simp
  refine ⟨hJ.keep hT (fun e => h2 e.symm) (fun k e e2 => h3 (by rw [e, e2])) (fun k e e2 => h4 (by rw [e, e2])) (fun k e => by rw [e]; exact hgw.1), ⟨gw', cap', by simp, ?_, ?_, ?_, ?_⟩, hT.below (by omega) (fun k e => by rw [e]; exact hgw.1)⟩
  · rw [List.length_append, byteCells_append]; exact hO
  · rcases hA with h | h
    · cases h; exact h2
    · omega
  · rcases hA with h | h
    · cases h; exact h3
    · intro e; have := hgs _ e; omega
  · rcases hA with h | h
    · cases h; exact h4
    · intro e; have := hgb _ e; omega
def catTo (V : Nat → ByteArray) : Nat → List UInt8
  | 0 => []
  | k + 1 => catTo V k ++ (V k).data.toList
theorem length_catTo (V : Nat → ByteArray) (k : Nat) : (catTo V k).length = sumTo V k := by
  induction k with
  | zero => rfl
  | succ k ih => simp only [catTo, sumTo, List.length_append, ih, size_list]
theorem bytes_snoc (s : ByteArray) (k : Nat) (h : k < s.size) : s.data.toList.take (k + 1) = s.data.toList.take k ++ [s[k]] := by
  rw [List.take_succ_eq_append_getElem (by rw [size_list]; exact h)]; rfl
end Go.Proofs.Ythcfdoaeefnemaa.jn
