/-
  The helpers that only read a list of names.
-/
import Derived.Test.YtlnmobagimhcgaaNm
import Derived.BigQuiet
namespace Go.Proofs.Ytlnmobagimhcgaa.nm
open Go.ChangeShapes Go.WideShapes Go.ChangeAt Go.RowKit Go.Deep Go.Maps
set_option linter.unusedVariables false

/-- A slice of n elements, V i at place i; of an empty one nothing is said. -/
def Row (w : World) (a : Option Addr) (n : Nat) (V : Nat → Value) : Prop := 0 < n → ∃ b off, a = some ⟨b, off, none⟩ ∧ ∀ i, i < n → w.cell? ⟨b, off + i, none⟩ = some (V i)
theorem Row.below {w w' : World} {a : Option Addr} {n : Nat} {V : Nat → Value} (h : Row w a n V) (hb : Below w.heap.size w w') : Row w' a n V := by
  intro h0
  obtain ⟨b, off, rfl, hc⟩ := h h0
  refine ⟨b, off, rfl, fun i hi => ?_⟩
  have h1 := hc i hi
  exact (hb.cell (p := ⟨b, off + i, none⟩) (block_lt_of_cell h1)).trans h1

/-- What a walk is told of a slice of strings that came in. -/
def IsStrs (w : World) (a : Option Addr) (len cap : Nat) (zs : List ByteArray) : Prop :=
  (a = none → len = 0 ∧ cap = 0) ∧ len ≤ maxLen ∧ Row w a len (fun i => .string (zs.getD i ByteArray.empty)) ∧ ∀ i, (zs.getD i ByteArray.empty).size ≤ maxLen
theorem IsStrs.nil (w : World) : IsStrs w none 0 0 [] := ⟨fun _ => ⟨rfl, rfl⟩, by unfold maxLen; omega, fun h => by omega, fun i => by simp⟩
theorem IsStrs.mk {w : World} {a : Addr} {len cap : Nat} {zs : List ByteArray} (hl : len ≤ cap) (hm : cap ≤ maxLen) (hz : zs.length = cap)
    (h : ∀ i, i < zs.length → w.cell? (a.add i) = some (.string (zs.getD i ByteArray.empty))) (hwz : ∀ s ∈ zs, s.size ≤ maxLen) : IsStrs w (some a) len cap zs := by
  refine ⟨by simp, by omega, fun h0 => ?_, fun i => ?_⟩
  · obtain ⟨b, off, spot⟩ := a
    have hspot : spot = none := by simpa [Addr.add] using World.cell?_spot (h 0 (by omega))
    subst hspot
    exact ⟨b, off, rfl, fun j hj => by rw [← Go.WideShapes.add_plain]; exact h j (by omega)⟩
  · rw [List.getD_eq_getElem?_getD]
    cases e : zs[i]? with
    | none => simp
    | some s => exact hwz s (List.mem_of_getElem? e)

theorem clone_all (w : World) (a : Option Addr) (len cap : Nat) (V : Nat → ByteArray) (hl : len ≤ 1048576) (ha : a = none → len = 0 ∧ cap = 0) (hc : Row w a len fun i => .string (V i)) :
    Calls Try.prog 7 #[.slice a len cap] w fun e w' => ∃ a' c', e = .returned (.slice a' len c') ∧ Row w' a' len (fun i => .string (V i)) ∧ Below w.heap.size w w' := by
  cases a with
  | none =>
    obtain ⟨rfl, rfl⟩ := ha rfl
    refine (clone_nil w).mono ?_
    rintro e w' ⟨rfl, rfl⟩
    exact ⟨none, 0, rfl, fun h => by omega, Below.refl _ _⟩
  | some x =>
    have hcl : Cells w x len fun i => .string (V i) := by
      refine ⟨fun h0 => ?_, fun i hi => ?_⟩
      · obtain ⟨b, off, e, _⟩ := hc h0; cases e; rfl
      · obtain ⟨b, off, e, h⟩ := hc (by omega); cases e; exact h i hi
    refine (clone w x len cap V hl hcl).mono ?_
    rintro e w' ⟨rfl, rfl⟩
    refine ⟨_, _, rfl, fun h0 => ⟨_, _, rfl, fun i hi => ?_⟩, (Below.refl _ _).alloc (Nat.le_refl _) _⟩
    exact (Cells.made w len (fun i => .string (V i)) 9).2 i hi

def SomeInt (w : World) (e : Ending) (w' : World) : Prop := (∃ c, e = .returned (.int .i64 c)) ∧ w = w'
def SomeBool (w : World) (e : Ending) (w' : World) : Prop := (∃ b, e = .returned (.bool b)) ∧ w = w'
def Says (v : Value) (w : World) (e : Ending) (w' : World) : Prop := e = .returned v ∧ w = w'
theorem seqT {a b : ByteArray} (h : a = b) : (a.toList == b.toList) = true := by subst h; simp
theorem seqF {a b : ByteArray} (h : a ≠ b) : (a.toList == b.toList) = false := by
  rw [ByteArray.toList_eq, ByteArray.toList_eq]
  refine beq_eq_false_iff_ne.2 fun e => h ?_
  cases a; cases b
  simp at e
  exact congrArg _ e
def namesTo (V : Nat → ByteArray) (k : Nat) : List ByteArray := (List.range k).map V
theorem namesTo_succ (V : Nat → ByteArray) (k : Nat) : namesTo V (k + 1) = namesTo V k ++ [V k] := by simp [namesTo, List.range_succ]
theorem mem_namesTo {V : Nat → ByteArray} {k : Nat} {s : ByteArray} : s ∈ namesTo V k ↔ ∃ j, j < k ∧ V j = s := by simp [namesTo]
theorem isIn_yes {V : Nat → ByteArray} {k j : Nat} {s : ByteArray} (hj : j < k) (e : V j = s) : isIn s (namesTo V k) = true := isIn_iff.2 (mem_namesTo.2 ⟨j, hj, e⟩)
theorem isIn_no {V : Nat → ByteArray} {k : Nat} {s : ByteArray} (h : ∀ j, j < k → V j ≠ s) : isIn s (namesTo V k) = false := by
  cases e : isIn s (namesTo V k) with
  | false => rfl
  | true => obtain ⟨j, hj, e2⟩ := mem_namesTo.1 (isIn_iff.1 e); exact absurd e2 (h j hj)
def cnt (V : Nat → ByteArray) (k : Nat) : Nat := Maps.size (setN (namesTo V k))
theorem cnt_zero (V : Nat → ByteArray) : cnt V 0 = 0 := by simp [cnt, namesTo, setN, setOf, Maps.size]
theorem cnt_yes {V : Nat → ByteArray} {k j : Nat} (hj : j < k) (e : V j = V k) : cnt V (k + 1) = cnt V k := by
  unfold cnt; rw [namesTo_succ, size_setN, isIn_yes hj e]; simp
theorem cnt_no {V : Nat → ByteArray} {k : Nat} (h : ∀ j, j < k → V j ≠ V k) : cnt V (k + 1) = cnt V k + 1 := by
  unfold cnt; rw [namesTo_succ, size_setN, isIn_no h]; simp
theorem cnt_le (V : Nat → ByteArray) (k : Nat) : cnt V k ≤ k := by
  induction k with
  | zero => rw [cnt_zero]; omega
  | succ k ih =>
    unfold cnt at *; rw [namesTo_succ, size_setN]
    split <;> omega

set_option maxHeartbeats 1000000 in
theorem nbytes (w : World) (a : Option Addr) (len cap : Nat) (V : Nat → ByteArray) (hl : len ≤ 1048576) (hc : Row w a len fun i => .string (V i)) :
    Calls Try.prog 6 #[.slice a len cap] w (SomeInt w) := by
  have HC := Lib.hid hc
  clear hc
  go_enter Try.func6, Try.ntmps6
  go_wp2
  go_loopw [3, 4] (fun n i wr => ∃ (k : Nat) (c : Int), k ≤ len ∧ i = .int .i64 k ∧ n = .int .i64 c ∧ w = wr) (fun n i _ => len - (intOf i).toNat)
  case atStart => exact ⟨0, _, by omega, rfl, rfl, rfl⟩
  case round =>
    obtain ⟨k, c, hk, rfl, rfl, rfl⟩ := hrel
    by_cases hlt : k < len
    · obtain ⟨b, off, rfl, hcell⟩ := HC.out (by omega)
      have c1 := hcell k hlt
      clear hcell
      go_wp2
      go_roundw
      case rel => exact ⟨k + 1, _, by omega, by go_num, rfl, trivial⟩
      case measure => simp [intOf]; omega
    · obtain rfl : k = len := by omega
      go_wp2
      go_ret
      exact ⟨⟨_, rfl⟩, rfl⟩

set_option maxHeartbeats 1000000 in
theorem contains (w : World) (a : Option Addr) (len cap : Nat) (V : Nat → ByteArray) (s : ByteArray) (hl : len ≤ 1048576) (hc : Row w a len fun i => .string (V i)) :
    Calls Try.prog 13 #[.slice a len cap, .string s] w (Says (.bool (isIn s (namesTo V len))) w) := by
  have HC := Lib.hid hc
  clear hc
  go_enter Try.func13, Try.ntmps13
  go_wp2
  go_loopw [5] (fun i wr => ∃ (k : Nat), k ≤ len ∧ i = .int .i64 k ∧ (∀ j, j < k → V j ≠ s) ∧ w = wr) (fun i _ => len - (intOf i).toNat)
  case atStart => exact ⟨0, by omega, rfl, by intro j hj; omega, rfl⟩
  case round =>
    obtain ⟨k, hk, rfl, hno, rfl⟩ := hrel
    have HN := Lib.hid hno
    clear hno
    by_cases hlt : k < len
    · obtain ⟨b, off, rfl, hcell⟩ := HC.out (by omega)
      have c1 := hcell k hlt
      clear hcell
      by_cases e : V k = s
      · have q := seqT e
        have HE := Lib.hid e
        clear e
        go_wp2
        go_ret
        exact ⟨by rw [isIn_yes hlt HE.out]; rfl, rfl⟩
      · have q := seqF e
        have HE := Lib.hid e
        clear e
        go_wp2
        go_roundw
        case rel =>
          refine ⟨k + 1, by omega, by go_num, ?_, trivial⟩
          intro j hj
          by_cases h : j = k
          · subst h; exact HE.out
          · exact HN.out j (by omega)
        case measure => simp [intOf]; omega
    · obtain rfl : k = len := by omega
      go_wp2
      go_ret
      exact ⟨by rw [isIn_no HN.out]; rfl, rfl⟩

set_option maxHeartbeats 2000000 in
theorem distinct (w : World) (a : Option Addr) (len cap : Nat) (V : Nat → ByteArray) (hl : len ≤ 1048576) (hc : Row w a len fun i => .string (V i)) :
    Calls Try.prog 12 #[.slice a len cap] w (fun e w' => ∃ nq, Says (.int .i64 (cnt V len)) (w.drewN nq) e w') := by
  have HC := Lib.hid hc
  clear hc
  go_enter Try.func12, Try.ntmps12
  go_wp2
  go_loopw [3, 4] (fun n i wr => ∃ (k nq : Nat), k ≤ len ∧ i = .int .i64 k ∧ n = .int .i64 (cnt V k) ∧ w.drewN nq = wr) (fun n i _ => len - (intOf i).toNat)
  case atStart => exact ⟨0, 0, by omega, rfl, by rw [cnt_zero]; rfl, rfl⟩
  case round =>
    obtain ⟨k, nq, hk, rfl, rfl, rfl⟩ := hrel
    by_cases hlt : k < len
    · obtain ⟨b, off, rfl, hcell⟩ := HC.out (by omega)
      have c1 := hcell k hlt
      have HCC := Lib.hid hcell
      clear hcell
      have hcl := cnt_le V k
      go_wp2
      go_loopw [5, 6] (fun s j wr => ∃ (m nr : Nat), m ≤ k ∧ s = .bool false ∧ j = .int .i64 m ∧ (∀ j, j < m → V j ≠ V k) ∧ w.drewN nr = wr) (fun s j _ => k - (intOf j).toNat)
      case atStart => exact ⟨0, nq, by omega, rfl, rfl, by intro j hj; omega, rfl⟩
      case round =>
        obtain ⟨m, nr, hm, rfl, rfl, hno, rfl⟩ := hrel
        have HN := Lib.hid hno
        clear hno
        by_cases hmk : m < k
        · have c2 := HCC.out m (by omega)
          by_cases e : V m = V k
          · have q := seqT e
            have HE := Lib.hid e
            clear e
            go_wp2
            go_quiet (fail)
            go_wp2
            go_roundw
            case rel => exact ⟨k + 1, nr + nq, by omega, by go_num, by rw [cnt_yes hmk HE.out], by simp⟩
            case measure => simp [intOf]; omega
          · have q := seqF e
            have HE := Lib.hid e
            clear e
            go_wp2
            go_quiet (fail)
            go_wp2
            go_roundw
            case rel =>
              refine ⟨m + 1, nr + nq, by omega, rfl, by go_num, ?_, by simp⟩
              intro j hj
              by_cases h : j = m
              · subst h; exact HE.out
              · exact HN.out j (by omega)
            case measure => simp [intOf]; omega
        · obtain rfl : m = k := by omega
          go_wp2
          go_roundw
          case rel => exact ⟨m + 1, nr, by omega, by go_num, by rw [cnt_no HN.out]; go_num, by simp⟩
          case measure => simp [intOf]; omega
    · obtain rfl : k = len := by omega
      go_wp2
      go_ret
      exact ⟨nq, rfl, rfl⟩

set_option maxHeartbeats 1000000 in
theorem bytes5 (w : World) (n : Int) (a : Option Addr) (len cap : Nat) (V : Nat → ByteArray) (s : ByteArray) (hc : Row w a len fun i => .string (V i)) :
    Calls Try.prog 5 #[.int .i64 n, .slice a len cap, .string s] w (SomeBool w) := by
  have HC := Lib.hid hc
  clear hc
  by_cases g1 : len ≤ 1048576
  rotate_left
  · go_enter Try.func5, Try.ntmps5
    go_wp2
    go_ret
    exact ⟨⟨_, rfl⟩, rfl⟩
  go_enter Try.func5, Try.ntmps5
  go_wp2
  go_loopw [7, 8] (fun n i wr => ∃ (k : Nat) (c : Int), k ≤ len ∧ i = .int .i64 k ∧ n = .int .i64 c ∧ w = wr) (fun n i _ => len - (intOf i).toNat)
  case atStart => exact ⟨0, _, by omega, rfl, rfl, rfl⟩
  case round =>
    obtain ⟨k, c, hk, rfl, rfl, rfl⟩ := hrel
    by_cases hlt : k < len
    · obtain ⟨b, off, rfl, hcell⟩ := HC.out (by omega)
      have c1 := hcell k hlt
      clear hcell
      go_wp2
      · go_ret
        exact ⟨⟨_, rfl⟩, rfl⟩
      · go_ret
        exact ⟨⟨_, rfl⟩, rfl⟩
      · go_roundw
        case rel => exact ⟨k + 1, _, by omega, by go_num, rfl, trivial⟩
        case measure => simp [intOf]; omega
    · obtain rfl : k = len := by omega
      go_wp2
      · go_ret
        exact ⟨⟨_, rfl⟩, rfl⟩
      · go_ret
        exact ⟨⟨_, rfl⟩, rfl⟩
      · go_ret
        exact ⟨⟨_, rfl⟩, rfl⟩

set_option maxHeartbeats 1000000 in
theorem bytes11 (w : World) (n : Int) (a : Option Addr) (len cap : Nat) (V : Nat → ByteArray) (s : ByteArray) (hc : Row w a len fun i => .string (V i)) :
    Calls Try.prog 11 #[.int .i64 n, .slice a len cap, .string s] w (SomeBool w) := by
  have HC := Lib.hid hc
  clear hc
  by_cases g1 : len ≤ 1048576
  rotate_left
  · go_enter Try.func11, Try.ntmps11
    go_wp2
    go_ret
    exact ⟨⟨_, rfl⟩, rfl⟩
  go_enter Try.func11, Try.ntmps11
  go_wp2
  go_loopw [7, 8] (fun n i wr => ∃ (k : Nat) (c : Int), k ≤ len ∧ i = .int .i64 k ∧ n = .int .i64 c ∧ w = wr) (fun n i _ => len - (intOf i).toNat)
  case atStart => exact ⟨0, _, by omega, rfl, rfl, rfl⟩
  case round =>
    obtain ⟨k, c, hk, rfl, rfl, rfl⟩ := hrel
    by_cases hlt : k < len
    · obtain ⟨b, off, rfl, hcell⟩ := HC.out (by omega)
      have c1 := hcell k hlt
      clear hcell
      go_wp2
      · go_ret
        exact ⟨⟨_, rfl⟩, rfl⟩
      · go_ret
        exact ⟨⟨_, rfl⟩, rfl⟩
      · go_roundw
        case rel => exact ⟨k + 1, _, by omega, by go_num, rfl, trivial⟩
        case measure => simp [intOf]; omega
    · obtain rfl : k = len := by omega
      go_wp2
      · go_ret
        exact ⟨⟨_, rfl⟩, rfl⟩
      · go_ret
        exact ⟨⟨_, rfl⟩, rfl⟩
      · go_ret
        exact ⟨⟨_, rfl⟩, rfl⟩
end Go.Proofs.Ytlnmobagimhcgaa.nm
