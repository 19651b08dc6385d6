/-
  Helpers of the statements on Joiners that take a list of byte slices and a list of kinds.
-/
import Derived.Test.YthcfdoaeefnemaaJh
import Derived.Laws.BytesArg
namespace Go.Proofs.Ythcfdoaeefnemaa.jn
open Go.ChangeShapes Go.WideShapes Go.ChangeAt Go.RowKit Go.Deep Go.Lib
set_option linter.unusedVariables false
set_option linter.unusedSimpArgs false

theorem Row.of_cells {w : World} {a : Addr} {n m : Nat} {V : Nat → Value} (hn : n ≤ m) (h : ∀ i, i < m → w.cell? (a.add i) = some (V i)) : Row w (some a) n V := by
  intro h0
  obtain ⟨b, off, spot⟩ := a
  have hspot : spot = none := by simpa [Addr.add] using World.cell?_spot (h 0 (by omega))
  subst hspot
  exact ⟨b, off, rfl, fun j hj => by rw [← Go.WideShapes.add_plain]; exact h j (by omega)⟩
theorem wf_zero (k : IntKind) : (Lit.int k 0).wf = true := by cases k <;> decide
/-- What a walk is told of a slice of integers that came in. -/
def IsInts (k : IntKind) (w : World) (a : Option Addr) (len cap : Nat) (Z : Nat → Int) : Prop :=
  (a = none → len = 0 ∧ cap = 0) ∧ len ≤ maxLen ∧ Row w a len (fun i => .int k (Z i)) ∧ ∀ i, (Lit.int k (Z i)).wf = true
theorem IsInts.nil (k : IntKind) (w : World) : IsInts k w none 0 0 (fun _ => 0) := ⟨fun _ => ⟨rfl, rfl⟩, by unfold maxLen; omega, fun h => by omega, fun i => wf_zero k⟩
theorem IsInts.mk {k : IntKind} {w : World} {a : Addr} {len cap : Nat} {zs : List Int} (hl : len ≤ cap) (hm : cap ≤ maxLen) (hz : zs.length = cap)
    (h : ∀ i, i < zs.length → w.cell? (a.add i) = some (.int k (zs.getD i 0))) (hwz : ∀ n ∈ zs, (Lit.int k n).wf = true) : IsInts k w (some a) len cap (fun i => zs.getD i 0) := by
  refine ⟨by simp, by omega, Row.of_cells (V := fun i => .int k (zs.getD i 0)) (by omega) h, fun i => ?_⟩
  show (Lit.int k (zs.getD i 0)).wf = true
  rw [List.getD_eq_getElem?_getD]
  cases e : zs[i]? with
  | none => exact wf_zero k
  | some s => exact hwz s (List.mem_of_getElem? e)
/-- What a walk is told of a slice of bools that came in. -/
def IsBools (w : World) (a : Option Addr) (len cap : Nat) (Z : Nat → Bool) : Prop := (a = none → len = 0 ∧ cap = 0) ∧ len ≤ maxLen ∧ Row w a len (fun i => .bool (Z i))
theorem IsBools.nil (w : World) : IsBools w none 0 0 (fun _ => false) := ⟨fun _ => ⟨rfl, rfl⟩, by unfold maxLen; omega, fun h => by omega⟩
/-- What a walk is told of a slice of slices of integers that came in. -/
def IsMat (k : IntKind) (w : World) (a : Option Addr) (len cap : Nat) (A : Nat → Option Addr) (L C : Nat → Nat) (Z : Nat → Nat → Int) : Prop :=
  (a = none → len = 0 ∧ cap = 0) ∧ len ≤ maxLen ∧ Row w a len (fun r => .slice (A r) (L r) (C r)) ∧ ∀ r, r < len → IsInts k w (A r) (L r) (C r) (Z r)
theorem IsMat.nil (k : IntKind) (w : World) : IsMat k w none 0 0 (fun _ => none) (fun _ => 0) (fun _ => 0) (fun _ _ => 0) := ⟨fun _ => ⟨rfl, rfl⟩, by unfold maxLen; omega, fun h => by omega, fun r h => by omega⟩
theorem IsMat.mk {k : IntKind} {w : World} {a : Addr} {len cap : Nat} {A : Nat → Option Addr} {L C : Nat → Nat} {Z : Nat → List Int} (hl : len ≤ cap) (hm : cap ≤ maxLen)
    (h : ∀ r, r < cap → w.cell? (a.add r) = some (.slice (A r) (L r) (C r)) ∧ L r ≤ C r ∧ C r ≤ maxLen ∧ (Z r).length = C r ∧ (∀ n ∈ Z r, (Lit.int k n).wf = true) ∧ (A r = none → C r = 0) ∧
        ∀ a', A r = some a' → 0 ≤ a'.block ∧ ∀ c, c < C r → w.cell? (a'.add c) = some (.int k ((Z r).getD c 0))) : IsMat k w (some a) len cap A L C (fun r i => (Z r).getD i 0) := by
  refine ⟨by simp, by omega, Row.of_cells (V := fun r => .slice (A r) (L r) (C r)) hl (fun i hi => (h i hi).1), fun r hr => ?_⟩
  obtain ⟨_, h2, h3, h4, h5, h6, h7⟩ := h r (by omega)
  cases hA : A r with
  | none =>
    have h8 := h6 hA
    obtain e : Z r = [] := List.eq_nil_of_length_eq_zero (by omega)
    refine ⟨fun _ => ⟨by omega, h8⟩, by omega, fun h => by omega, fun i => ?_⟩
    show (Lit.int k ((Z r).getD i 0)).wf = true
    rw [e]; exact wf_zero k
  | some a' => exact IsInts.mk h2 h3 h4 (fun i hi => (h7 a' hA).2 i (by omega)) h5
set_option maxHeartbeats 1000000 in
theorem cloneb_main (w : World) (b off : Nat) (len cap : Nat) (V : Nat → Int) (hl : len ≤ 1048576) (hc : Cells w ⟨b, off, none⟩ len fun i => Value.int .u8 (V i)) :
    Calls Try.prog 24 #[.slice (some ⟨b, off, none⟩) len cap] w fun e w' => e = .returned (.slice (some ⟨w.heap.size, 0, none⟩) len len) ∧
      w.alloc (.cells ((Array.range len).map fun i => Value.int .u8 (V i)) 5) = w' := by
  have HC := Lib.hid hc
  clear hc
  have hmk := run_make_row' (P := Try.prog) 31 5 (Value.int .u8 0) 1 Try.underlying31 info5 rfl .i64 .i64 len (by omega) (by omega) w
  rw [fillA_zero (fun i => Value.int .u8 (V i))] at hmk
  have hnil := fun (w : World) (a : Option Addr) (n c : Nat) => Lib.run_eql_slice_nil (P := Try.prog) w 31 5 a n c 0 0 Try.underlying31
  go_enter Try.func24, Try.ntmps24
  go_wp2
  go_loopw [4] (fun i wr => ∃ k : Nat, k ≤ len ∧ i = .int .i64 k ∧ w.alloc (.cells (fillA (fun i => Value.int .u8 (V i)) (Value.int .u8 0) k len) 5) = wr) (fun i _ => len - (intOf i).toNat)
  case atStart => exact ⟨0, by omega, rfl, rfl⟩
  case round =>
    obtain ⟨k, hk, rfl, rfl⟩ := hrel
    clear hmk
    by_cases hlt : k < len
    · have c1 : w.cell? ⟨b, off + k, none⟩ = some (Value.int .u8 (V k)) := HC.out.2 k hlt
      have hbl : b < w.heap.size := block_lt_of_cell (a := ⟨b, off + k, none⟩) c1
      have c2 : (fillA (fun i => Value.int .u8 (V i)) (Value.int .u8 0) k len)[k]? = some (Value.int .u8 0) := by rw [get_fillA _ _ _ _ _ hlt, if_neg (by omega)]
      have HF := Lib.hid (fillA_step (fun i => Value.int .u8 (V i)) (Value.int .u8 0) k len hlt)
      go_wp2
      go_roundw
      case rel => exact ⟨k + 1, by omega, by go_num, by rw [← HF.out]⟩
      case measure => simp [intOf]; omega
    · obtain rfl : k = len := by omega
      rw [fillA_full]
      go_wp2
      go_ret
      exact ⟨rfl, rfl⟩

set_option maxHeartbeats 1000000 in
theorem cloneb_zero (w : World) (x : Addr) (cap : Nat) :
    Calls Try.prog 24 #[.slice (some x) 0 cap] w fun e w' => e = .returned (.slice (some ⟨w.heap.size, 0, none⟩) 0 0) ∧ w.alloc (.cells #[] 5) = w' := by
  have hmk := run_make_row' (P := Try.prog) 31 5 (Value.int .u8 0) 1 Try.underlying31 info5 rfl .i64 .i64 0 (by omega) (by omega) w
  rw [show madeCells #[Value.int .u8 0] 0 = #[] by simp [madeCells], show ((0 : Nat) : Int) = 0 from rfl] at hmk
  have hnil := fun (w : World) (a : Option Addr) (n c : Nat) => Lib.run_eql_slice_nil (P := Try.prog) w 31 5 a n c 0 0 Try.underlying31
  go_enter Try.func24, Try.ntmps24
  go_wp2
  go_loopw [4] (fun i wr => i = .int .i64 0 ∧ w.alloc (.cells #[] 5) = wr) (fun i _ => 0)
  case atStart => exact ⟨rfl, rfl⟩
  case round =>
    obtain ⟨rfl, rfl⟩ := hrel
    clear hmk
    go_wp2
    go_ret
    exact ⟨rfl, rfl⟩

theorem cloneb (w : World) (x : Addr) (len cap : Nat) (V : Nat → Int) (hl : len ≤ 1048576) (hc : Cells w x len fun i => Value.int .u8 (V i)) :
    Calls Try.prog 24 #[.slice (some x) len cap] w fun e w' => e = .returned (.slice (some ⟨w.heap.size, 0, none⟩) len len) ∧
      w.alloc (.cells ((Array.range len).map fun i => Value.int .u8 (V i)) 5) = w' := by
  by_cases h0 : len = 0
  · subst h0
    rw [show ((Array.range 0).map fun i => Value.int .u8 (V i)) = #[] by simp]
    exact cloneb_zero w x cap
  · obtain ⟨b, off, sp⟩ := x
    obtain rfl : sp = none := hc.1 (by omega)
    exact cloneb_main w b off len cap V hl hc

theorem cloneb_nil (w : World) : Calls Try.prog 24 #[.slice none 0 0] w fun e w' => e = .returned (.slice none 0 0) ∧ w = w' := by
  have hnil := fun (w : World) (a : Option Addr) (n c : Nat) => Lib.run_eql_slice_nil (P := Try.prog) w 31 5 a n c 0 0 Try.underlying31
  go_enter Try.func24, Try.ntmps24
  go_wp2
  go_ret
  exact ⟨rfl, rfl⟩


theorem cloneb_all (w : World) (a : Option Addr) (len cap : Nat) (V : Nat → Int) (hl : len ≤ 1048576) (ha : a = none → len = 0 ∧ cap = 0) (hc : Row w a len fun i => Value.int .u8 (V i)) :
    Calls Try.prog 24 #[.slice a len cap] w fun e w' => ∃ a' c', e = .returned (.slice a' len c') ∧ Row w' a' len (fun i => Value.int .u8 (V i)) ∧ Below w.heap.size w w' ∧ (0 < len → a' = some ⟨w.heap.size, 0, none⟩) := by
  cases a with
  | none =>
    obtain ⟨rfl, rfl⟩ := ha rfl
    refine (cloneb_nil w).mono ?_
    rintro e w' ⟨rfl, rfl⟩
    exact ⟨none, 0, rfl, fun h => by omega, Below.refl _ _, fun h => by omega⟩
  | some x =>
    have hcl : Cells w x len fun i => Value.int .u8 (V i) := by
      refine ⟨fun h0 => ?_, fun i hi => ?_⟩
      · obtain ⟨b, off, e, _⟩ := hc h0; cases e; rfl
      · obtain ⟨b, off, e, h⟩ := hc (by omega); cases e; exact h i hi
    refine (cloneb w x len cap V hl hcl).mono ?_
    rintro e w' ⟨rfl, rfl⟩
    refine ⟨_, _, rfl, fun h0 => ⟨_, _, rfl, fun i hi => ?_⟩, (Below.refl _ _).alloc (Nat.le_refl _) _, fun _ => rfl⟩
    exact (Cells.made w len (fun i => Value.int .u8 (V i)) 5).2 i hi
theorem info4 : (Try.prog.info? 4).map (fun i => (i.zero, i.size, i.bytes)) = some (some (Value.bool false), 1, 1) := by kernel_rfl

set_option maxHeartbeats 1000000 in
theorem clonek_main (w : World) (b off : Nat) (len cap : Nat) (V : Nat → Bool) (hl : len ≤ 1048576) (hc : Cells w ⟨b, off, none⟩ len fun i => Value.bool (V i)) :
    Calls Try.prog 19 #[.slice (some ⟨b, off, none⟩) len cap] w fun e w' => e = .returned (.slice (some ⟨w.heap.size, 0, none⟩) len len) ∧
      w.alloc (.cells ((Array.range len).map fun i => Value.bool (V i)) 4) = w' := by
  have HC := Lib.hid hc
  clear hc
  have hmk := run_make_row' (P := Try.prog) 38 4 (Value.bool false) 1 Try.underlying38 info4 rfl .i64 .i64 len (by omega) (by omega) w
  rw [fillA_zero (fun i => Value.bool (V i))] at hmk
  have hnil := fun (w : World) (a : Option Addr) (n c : Nat) => Lib.run_eql_slice_nil (P := Try.prog) w 38 4 a n c 0 0 Try.underlying38
  go_enter Try.func19, Try.ntmps19
  go_wp2
  go_loopw [4] (fun i wr => ∃ k : Nat, k ≤ len ∧ i = .int .i64 k ∧ w.alloc (.cells (fillA (fun i => Value.bool (V i)) (Value.bool false) k len) 4) = wr) (fun i _ => len - (intOf i).toNat)
  case atStart => exact ⟨0, by omega, rfl, rfl⟩
  case round =>
    obtain ⟨k, hk, rfl, rfl⟩ := hrel
    clear hmk
    by_cases hlt : k < len
    · have c1 : w.cell? ⟨b, off + k, none⟩ = some (Value.bool (V k)) := HC.out.2 k hlt
      have hbl : b < w.heap.size := block_lt_of_cell (a := ⟨b, off + k, none⟩) c1
      have c2 : (fillA (fun i => Value.bool (V i)) (Value.bool false) k len)[k]? = some (Value.bool false) := by rw [get_fillA _ _ _ _ _ hlt, if_neg (by omega)]
      have HF := Lib.hid (fillA_step (fun i => Value.bool (V i)) (Value.bool false) k len hlt)
      go_wp2
      go_roundw
      case rel => exact ⟨k + 1, by omega, by go_num, by rw [← HF.out]⟩
      case measure => simp [intOf]; omega
    · obtain rfl : k = len := by omega
      rw [fillA_full]
      go_wp2
      go_ret
      exact ⟨rfl, rfl⟩

set_option maxHeartbeats 1000000 in
theorem clonek_zero (w : World) (x : Addr) (cap : Nat) :
    Calls Try.prog 19 #[.slice (some x) 0 cap] w fun e w' => e = .returned (.slice (some ⟨w.heap.size, 0, none⟩) 0 0) ∧ w.alloc (.cells #[] 4) = w' := by
  have hmk := run_make_row' (P := Try.prog) 38 4 (Value.bool false) 1 Try.underlying38 info4 rfl .i64 .i64 0 (by omega) (by omega) w
  rw [show madeCells #[Value.bool false] 0 = #[] by simp [madeCells], show ((0 : Nat) : Int) = 0 from rfl] at hmk
  have hnil := fun (w : World) (a : Option Addr) (n c : Nat) => Lib.run_eql_slice_nil (P := Try.prog) w 38 4 a n c 0 0 Try.underlying38
  go_enter Try.func19, Try.ntmps19
  go_wp2
  go_loopw [4] (fun i wr => i = .int .i64 0 ∧ w.alloc (.cells #[] 4) = wr) (fun i _ => 0)
  case atStart => exact ⟨rfl, rfl⟩
  case round =>
    obtain ⟨rfl, rfl⟩ := hrel
    clear hmk
    go_wp2
    go_ret
    exact ⟨rfl, rfl⟩

theorem clonek (w : World) (x : Addr) (len cap : Nat) (V : Nat → Bool) (hl : len ≤ 1048576) (hc : Cells w x len fun i => Value.bool (V i)) :
    Calls Try.prog 19 #[.slice (some x) len cap] w fun e w' => e = .returned (.slice (some ⟨w.heap.size, 0, none⟩) len len) ∧
      w.alloc (.cells ((Array.range len).map fun i => Value.bool (V i)) 4) = w' := by
  by_cases h0 : len = 0
  · subst h0
    rw [show ((Array.range 0).map fun i => Value.bool (V i)) = #[] by simp]
    exact clonek_zero w x cap
  · obtain ⟨b, off, sp⟩ := x
    obtain rfl : sp = none := hc.1 (by omega)
    exact clonek_main w b off len cap V hl hc

theorem clonek_nil (w : World) : Calls Try.prog 19 #[.slice none 0 0] w fun e w' => e = .returned (.slice none 0 0) ∧ w = w' := by
  have hnil := fun (w : World) (a : Option Addr) (n c : Nat) => Lib.run_eql_slice_nil (P := Try.prog) w 38 4 a n c 0 0 Try.underlying38
  go_enter Try.func19, Try.ntmps19
  go_wp2
  go_ret
  exact ⟨rfl, rfl⟩


theorem clonek_all (w : World) (a : Option Addr) (len cap : Nat) (V : Nat → Bool) (hl : len ≤ 1048576) (ha : a = none → len = 0 ∧ cap = 0) (hc : Row w a len fun i => Value.bool (V i)) :
    Calls Try.prog 19 #[.slice a len cap] w fun e w' => ∃ a' c', e = .returned (.slice a' len c') ∧ Row w' a' len (fun i => Value.bool (V i)) ∧ Below w.heap.size w w' ∧ (0 < len → a' = some ⟨w.heap.size, 0, none⟩) := by
  cases a with
  | none =>
    obtain ⟨rfl, rfl⟩ := ha rfl
    refine (clonek_nil w).mono ?_
    rintro e w' ⟨rfl, rfl⟩
    exact ⟨none, 0, rfl, fun h => by omega, Below.refl _ _, fun h => by omega⟩
  | some x =>
    have hcl : Cells w x len fun i => Value.bool (V i) := by
      refine ⟨fun h0 => ?_, fun i hi => ?_⟩
      · obtain ⟨b, off, e, _⟩ := hc h0; cases e; rfl
      · obtain ⟨b, off, e, h⟩ := hc (by omega); cases e; exact h i hi
    refine (clonek w x len cap V hl hcl).mono ?_
    rintro e w' ⟨rfl, rfl⟩
    refine ⟨_, _, rfl, fun h0 => ⟨_, _, rfl, fun i hi => ?_⟩, (Below.refl _ _).alloc (Nat.le_refl _) _, fun _ => rfl⟩
    exact (Cells.made w len (fun i => Value.bool (V i)) 4).2 i hi

set_option maxHeartbeats 1000000 in
theorem bytes16 (w : World) (a : Option Addr) (len cap : Nat) (A : Nat → Option Addr) (L C : Nat → Nat) (a1 : Option Addr) (len1 cap1 : Nat) (hc : Row w a len fun r => .slice (A r) (L r) (C r)) :
    Calls Try.prog 16 #[.slice a len cap, .slice a1 len1 cap1] w (SomeBool w) := by
  have HC := Lib.hid hc
  clear hc
  by_cases g1 : len ≤ 1048576
  rotate_left
  · go_enter Try.func16, Try.ntmps16
    go_wp2
    go_ret
    exact ⟨⟨_, rfl⟩, rfl⟩
  go_enter Try.func16, Try.ntmps16
  go_wp2
  go_loopw [5, 6] (fun n i wr => ∃ (k : Nat) (c : Int), k ≤ len ∧ i = .int .i64 k ∧ n = .int .i64 c ∧ w = wr) (fun n i _ => len - (intOf i).toNat)
  case atStart => exact ⟨0, _, by omega, rfl, rfl, rfl⟩
  case round =>
    obtain ⟨k, c, hk, rfl, rfl, rfl⟩ := hrel
    by_cases hlt : k < len
    · obtain ⟨b, off, rfl, hcell⟩ := HC.out (by omega)
      have c1 := hcell k hlt
      clear hcell
      go_wp2
      · go_ret
        exact ⟨⟨_, rfl⟩, rfl⟩
      · go_ret
        exact ⟨⟨_, rfl⟩, rfl⟩
      · go_roundw
        case rel => exact ⟨k + 1, _, by omega, by go_num, rfl, trivial⟩
        case measure => simp [intOf]; omega
    · obtain rfl : k = len := by omega
      go_wp2
      all_goals (go_ret; exact ⟨⟨_, rfl⟩, rfl⟩)

set_option maxHeartbeats 1000000 in
theorem bytes23 (w : World) (a : Option Addr) (len cap : Nat) (A : Nat → Option Addr) (L C : Nat → Nat) (a1 : Option Addr) (len1 cap1 : Nat) (hc : Row w a len fun r => .slice (A r) (L r) (C r)) :
    Calls Try.prog 23 #[.slice a len cap, .slice a1 len1 cap1] w (SomeBool w) := by
  have HC := Lib.hid hc
  clear hc
  by_cases g1 : len ≤ 1048576
  rotate_left
  · go_enter Try.func23, Try.ntmps23
    go_wp2
    go_ret
    exact ⟨⟨_, rfl⟩, rfl⟩
  go_enter Try.func23, Try.ntmps23
  go_wp2
  go_loopw [5, 6] (fun n i wr => ∃ (k : Nat) (c : Int), k ≤ len ∧ i = .int .i64 k ∧ n = .int .i64 c ∧ w = wr) (fun n i _ => len - (intOf i).toNat)
  case atStart => exact ⟨0, _, by omega, rfl, rfl, rfl⟩
  case round =>
    obtain ⟨k, c, hk, rfl, rfl, rfl⟩ := hrel
    by_cases hlt : k < len
    · obtain ⟨b, off, rfl, hcell⟩ := HC.out (by omega)
      have c1 := hcell k hlt
      clear hcell
      go_wp2
      · go_ret
        exact ⟨⟨_, rfl⟩, rfl⟩
      · go_ret
        exact ⟨⟨_, rfl⟩, rfl⟩
      · go_roundw
        case rel => exact ⟨k + 1, _, by omega, by go_num, rfl, trivial⟩
        case measure => simp [intOf]; omega
    · obtain rfl : k = len := by omega
      go_wp2
      all_goals (go_ret; exact ⟨⟨_, rfl⟩, rfl⟩)

/-- The bytes of part r. -/
def part (Z : Nat → Nat → Int) (L : Nat → Nat) (r : Nat) : List UInt8 := (List.range (L r)).map fun i => (Z r i).toNat.toUInt8
theorem length_part (Z : Nat → Nat → Int) (L : Nat → Nat) (r : Nat) : (part Z L r).length = L r := by simp [part]
theorem byteAt_part {Z : Nat → Nat → Int} {L : Nat → Nat} {r i : Nat} (hi : i < L r) (hw : (Lit.int .u8 (Z r i)).wf = true) : byteAt (part Z L r) i = .int .u8 (Z r i) := by
  have hb : 0 ≤ Z r i ∧ Z r i ≤ 255 := by simpa [Lit.wf, IntKind.min, IntKind.max, IntKind.signed, IntKind.bits] using hw
  unfold byteAt part
  simp only [List.getD_eq_getElem?_getD, List.getElem?_map, List.getElem?_range hi, Option.map_some, Option.getD_some]
  congr 1
  have : ((Z r i).toNat.toUInt8).toNat = (Z r i).toNat := by simp [Nat.toUInt8]; omega
  rw [this]; omega
def sumL (L : Nat → Nat) : Nat → Nat
  | 0 => 0
  | k + 1 => sumL L k + L k
theorem sumL_mono (L : Nat → Nat) {k n : Nat} (h : k ≤ n) : sumL L k ≤ sumL L n := by
  induction n with
  | zero => obtain rfl : k = 0 := by omega
            exact Nat.le_refl _
  | succ n ih =>
    by_cases e : k = n + 1
    · subst e; exact Nat.le_refl _
    · have := ih (by omega); simp only [sumL]; omega
def SizeL (w : World) (L : Nat → Nat) (len : Nat) (e : Ending) (w' : World) : Prop := (∃ c : Int, e = .returned (.int .i64 c) ∧ (c ≤ 1048576 → sumL L len ≤ 1048576)) ∧ w = w'
theorem SizeL.big {w : World} {L : Nat → Nat} {len : Nat} : SizeL w L len (.returned (.int .i64 1048577)) w := ⟨⟨1048577, rfl, fun h => absurd h (by decide)⟩, rfl⟩
set_option maxRecDepth 100000 in
set_option maxHeartbeats 1000000 in
theorem size17 (w : World) (a : Option Addr) (len cap : Nat) (A : Nat → Option Addr) (L C : Nat → Nat) (a1 : Option Addr) (len1 cap1 : Nat) (hl : len ≤ 65536) (hl1 : len1 ≤ 65536) (hc : Row w a len fun r => .slice (A r) (L r) (C r)) :
    Calls Try.prog 17 #[.slice a len cap, .slice a1 len1 cap1] w (SizeL w L len) := by
  have HC := Lib.hid hc
  clear hc
  go_enter Try.func17, Try.ntmps17
  go_wp2
  go_loopw [5, 6] (fun n i wr => ∃ (k c : Nat), k ≤ len ∧ i = .int .i64 k ∧ n = .int .i64 c ∧ sumL L k ≤ c ∧ c ≤ 1048576 ∧ w = wr) (fun n i _ => len - (intOf i).toNat)
  case atStart => exact ⟨0, 48 + len1, by omega, rfl, by go_num, by simp [sumL], by omega, rfl⟩
  case round =>
    obtain ⟨k, c, hk, rfl, rfl, hs, hc, rfl⟩ := hrel
    by_cases hlt : k < len
    · obtain ⟨b, off, rfl, hcell⟩ := HC.out (by omega)
      have c1 := hcell k hlt
      clear hcell
      have HS := Lib.hid hs
      clear hs
      by_cases g1 : L k ≤ 1048576
      · by_cases g2 : c + L k + 24 ≤ 1048576
        · have t1 : decide ((1048576 : Int) < (L k : Int)) = false := by simp; omega
          have t2 : decide ((1048576 : Int) < (c : Int) + ((L k : Int) + 24)) = false := by simp; omega
          have G1 := Lib.hid g1
          have G2 := Lib.hid g2
          have gc : L k ≤ 1073741824 := by omega
          have gd : c ≤ 1073741824 := by omega
          clear g1 g2 hc
          go_wp2
          go_roundw
          case rel =>
            have hs := HS.out
            have g2 := G2.out
            exact ⟨k + 1, c + (L k + 24), by omega, by go_num, by go_num, by simp only [sumL]; omega, by omega, trivial⟩
          case measure => simp [intOf]; omega
        · have t2 : (1048576 : Int) < (c : Int) + ((L k : Int) + 24) := by omega
          clear g2
          go_wp2
          go_ret
          exact SizeL.big
      · have t1 : (1048576 : Int) < (L k : Int) := by omega
        clear g1
        go_wp2
        go_ret
        exact SizeL.big
    · obtain rfl : k = len := by omega
      go_wp2
      go_ret
      exact ⟨⟨_, rfl, fun h => by omega⟩, rfl⟩

theorem kind20 (w : World) (a : Option Addr) (len cap : Nat) (K : Nat → Bool) (i : Nat) (hi : i ≤ 65536) (hc : Row w a len fun i => .bool (K i)) :
    Calls Try.prog 20 #[.slice a len cap, .int .i64 i] w fun e w' => e = .returned (.bool (if i < len then K i else false)) ∧ w = w' := by
  by_cases h : i < len
  · rw [if_pos h]
    obtain ⟨b, off, rfl, hcell⟩ := hc (by omega)
    have c1 := hcell i h
    clear hcell hc
    go_enter Try.func20, Try.ntmps20
    go_wp2
    go_ret
    exact ⟨rfl, rfl⟩
  · rw [if_neg h]
    clear hc
    go_enter Try.func20, Try.ntmps20
    go_wp2
    go_ret
    exact ⟨rfl, rfl⟩
/-- What cloning a list of byte slices leaves. -/
def CloneL (w : World) (n : Nat) (L : Nat → Nat) (Z : Nat → Nat → Int) (e : Ending) (w' : World) : Prop :=
  ∃ (a' : Option Addr) (c' : Nat) (A' : Nat → Option Addr) (C' : Nat → Nat), e = .returned (.slice a' n c') ∧ Row w' a' n (fun r => .slice (A' r) (L r) (C' r)) ∧ (∀ r, r < n → Row w' (A' r) (L r) (fun i => .int .u8 (Z r i))) ∧ Below w.heap.size w w'
theorem info31 : (Try.prog.info? 31).map (fun i => (i.zero, i.size, i.bytes)) = some (some (Value.slice none 0 0), 1, 24) := by kernel_rfl
theorem fillA_congr {V V' : Nat → Value} {z : Value} {k n : Nat} (h : ∀ i, i < k → V i = V' i) : fillA V z k n = fillA V' z k n := by
  apply Array.ext
  · simp [size_fillA]
  · intro i h1 h2
    simp only [fillA, Array.getElem_map, Array.getElem_range]
    by_cases hk : i < k
    · rw [if_pos hk, if_pos hk, h i hk]
    · rw [if_neg hk, if_neg hk]
set_option maxRecDepth 100000 in
set_option maxHeartbeats 2000000 in
theorem cloneL (w : World) (x : Addr) (n cap : Nat) (A : Nat → Option Addr) (L C : Nat → Nat) (Z : Nat → Nat → Int) (hn : n ≤ 65536) (hL : ∀ r, r < n → L r ≤ 1048576)
    (hc : Row w (some x) n fun r => .slice (A r) (L r) (C r)) (hZ : ∀ r, r < n → (A r = none → L r = 0 ∧ C r = 0) ∧ Row w (A r) (L r) (fun i => .int .u8 (Z r i))) :
    Calls Try.prog 18 #[.slice (some x) n cap] w (CloneL w n L Z) := by
  have HC := Lib.hid hc
  have HL := Lib.hid hL
  have HZ := Lib.hid hZ
  clear hc hL hZ
  have hmk := run_make_row' (P := Try.prog) 37 31 (Value.slice none 0 0) 24 Try.underlying37 info31 rfl .i64 .i64 n (by omega) (by omega) w
  rw [fillA_zero (fun r => Value.slice (none : Option Addr) 0 0)] at hmk
  have hnil := fun (w : World) (a : Option Addr) (n c : Nat) => Lib.run_eql_slice_nil (P := Try.prog) w 37 31 a n c 0 0 Try.underlying37
  go_enter Try.func18, Try.ntmps18
  go_wp2
  have H0 : Hid ((w.alloc (.cells (fillA (fun r => Value.slice (none : Option Addr) 0 0) (Value.slice none 0 0) 0 n) 31)).heap[w.heap.size]? = some (.cells (fillA (fun r => Value.slice ((fun _ => none : Nat → Option Addr) r) (L r) ((fun _ => 0 : Nat → Nat) r)) (Value.slice none 0 0) 0 n) 31 (0, 0))) := Lib.hid (by
    rw [fillA_congr (V' := fun r => Value.slice (none : Option Addr) 0 0) (fun i hi => by omega)]
    exact heap_alloc_new w _)
  have HB0 : Hid (Below w.heap.size w (w.alloc (.cells (fillA (fun r => Value.slice (none : Option Addr) 0 0) (Value.slice none 0 0) 0 n) 31))) := Lib.hid ((Below.refl _ _).alloc (Nat.le_refl _) _)
  clear hmk hnil
  generalize w.alloc (.cells (fillA (fun r => Value.slice (none : Option Addr) 0 0) (Value.slice none 0 0) 0 n) 31) = w1 at *
  go_loopw [4] (fun i wr => ∃ (k : Nat) (A' : Nat → Option Addr) (C' : Nat → Nat), k ≤ n ∧ i = .int .i64 k ∧ wr.heap[w.heap.size]? = some (.cells (fillA (fun r => Value.slice (A' r) (L r) (C' r)) (Value.slice none 0 0) k n) 31 (0, 0)) ∧
    (∀ r, r < k → ∃ b off, (0 < L r → A' r = some ⟨b, off, none⟩) ∧ w.heap.size < b ∧ ∀ i, i < L r → wr.cell? ⟨b, off + i, none⟩ = some (.int .u8 (Z r i))) ∧ Below w.heap.size w wr) (fun i _ => n - (intOf i).toNat)
  case atStart => exact ⟨0, _, _, by omega, rfl, H0.out, fun r h => by omega, HB0.out⟩
  case round =>
    clear H0 HB0
    obtain ⟨k, A', C', hk, rfl, hG, hR, hB⟩ := hrel
    have HG := Lib.hid hG
    have HR := Lib.hid hR
    have HB := Lib.hid hB
    have hgl : w.heap.size < wr.heap.size := lt_of_block hG
    clear hG hR hB
    by_cases hlt : k < n
    · obtain ⟨b, off, e, hcell⟩ := (HC.out.below HB.out) (by omega)
      cases e
      have c1 := hcell k hlt
      clear hcell
      have hLk := HL.out k hlt
      go_wp2_with fail
      refine (cloneb_all wr (A k) (L k) (C k) (Z k) hLk (HZ.out k hlt).1 ((HZ.out k hlt).2.below HB.out)).mono ?_
      rintro e w2 ⟨a2, c2, rfl, hr2, hb2, hf2⟩
      have HG2 := Lib.hid (show w2.heap[w.heap.size]? = _ from (hb2.block _ hgl).trans HG.out)
      have HB2 := Lib.hid (HB.out.trans (hb2.mono HB.out.size))
      have d1 : w2.cell? ⟨w.heap.size, k, none⟩ = some (.slice none 0 0) := by
        rw [cell_of_row _ _ _ _ _ _ HG2.out, get_fillA _ _ _ _ _ hlt, if_neg (by omega)]
      have d2 : w2.frozen? ⟨w.heap.size, k, none⟩ = false := frozen_of_row _ _ _ _ _ HG2.out
      have HR2 : Hid (∀ r, r < k + 1 → ∃ b off, (0 < L r → (fun r => if r = k then a2 else A' r) r = some ⟨b, off, none⟩) ∧ w.heap.size < b ∧ ∀ i, i < L r → (w2.setCell ⟨w.heap.size, k, none⟩ (.slice a2 (L k) c2)).cell? ⟨b, off + i, none⟩ = some (.int .u8 (Z r i))) := Lib.hid (by
        intro r hr
        have keep : ∀ (b o : Nat) (v : Value), w.heap.size < b → w2.cell? ⟨b, o, none⟩ = some v → (w2.setCell ⟨w.heap.size, k, none⟩ (.slice a2 (L k) c2)).cell? ⟨b, o, none⟩ = some v := fun b o v hb h => by
          rw [World.cell?_of_block (w := w2) (a := ⟨b, o, none⟩) (Below.heap_setCell _ _ _ _ (by simp; omega))]; exact h
        by_cases e : r = k
        · subst e
          by_cases h0 : 0 < L r
          · obtain ⟨b, off, e, h⟩ := hr2 h0
            have hbl : wr.heap.size ≤ b := by have := hf2 h0; rw [e] at this; cases this; exact Nat.le_refl _
            exact ⟨b, off, fun _ => by simp [e], by omega, fun i hi => keep _ _ _ (by omega) (h i hi)⟩
          · exact ⟨w.heap.size + 1, 0, fun h => absurd h h0, by omega, fun i hi => by omega⟩
        · obtain ⟨b, off, h1, h2, h3⟩ := HR.out r (by omega)
          refine ⟨b, off, fun h => by simp [e, h1 h], h2, fun i hi => keep _ _ _ h2 ?_⟩
          have := h3 i hi
          rw [hb2.cell (p := ⟨b, off + i, none⟩) (block_lt_of_cell this)]; exact this)
      have HG3 : Hid ((w2.setCell ⟨w.heap.size, k, none⟩ (.slice a2 (L k) c2)).heap[w.heap.size]? = some (.cells (fillA (fun r => Value.slice ((fun r => if r = k then a2 else A' r) r) (L r) ((fun r => if r = k then c2 else C' r) r)) (Value.slice none 0 0) (k + 1) n) 31 (0, 0))) := Lib.hid (by
        rw [heap_setCell_same _ _ _ _ _ _ HG2.out, ← fillA_step _ _ _ _ hlt, fillA_congr (V' := fun r => Value.slice ((fun r => if r = k then a2 else A' r) r) (L r) ((fun r => if r = k then c2 else C' r) r)) (fun i hi => by simp [show i ≠ k by omega])]
        simp)
      have HB3 : Hid (Below w.heap.size w (w2.setCell ⟨w.heap.size, k, none⟩ (.slice a2 (L k) c2))) := Lib.hid (HB2.out.setCell (Nat.le_refl _) _)
      have hgl2 : w.heap.size < w2.heap.size := Nat.lt_of_lt_of_le hgl hb2.size
      clear hr2 hb2 hf2 c1
      go_simp
      go_wp2_with fail
      go_roundw
      case rel => exact ⟨k + 1, _, _, by omega, by go_num, HG3.out, HR2.out, HB3.out⟩
      case measure => simp [intOf]; omega
    · obtain rfl : k = n := by omega
      go_wp2_with fail
      go_ret
      refine ⟨_, _, A', C', rfl, fun _ => ⟨_, _, rfl, fun i hi => ?_⟩, fun r hr h0 => ?_, HB.out⟩
      · rw [Nat.zero_add, cell_of_row _ _ _ _ _ _ HG.out, get_fillA _ _ _ _ _ hi, if_pos hi]
      · obtain ⟨b, off, h1, h2, h3⟩ := HR.out r hr
        exact ⟨b, off, h1 h0, h3⟩
theorem cloneL_nil (w : World) (L : Nat → Nat) (Z : Nat → Nat → Int) : Calls Try.prog 18 #[.slice none 0 0] w (CloneL w 0 L Z) := by
  have hnil := fun (w : World) (a : Option Addr) (n c : Nat) => Lib.run_eql_slice_nil (P := Try.prog) w 37 31 a n c 0 0 Try.underlying37
  go_enter Try.func18, Try.ntmps18
  go_wp2
  go_ret
  exact ⟨none, 0, fun _ => none, fun _ => 0, rfl, fun h => by omega, fun r h => by omega, Below.refl _ _⟩
theorem cloneL_all (w : World) (a : Option Addr) (n cap : Nat) (A : Nat → Option Addr) (L C : Nat → Nat) (Z : Nat → Nat → Int) (hn : n ≤ 65536) (hL : ∀ r, r < n → L r ≤ 1048576) (h : IsMat .u8 w a n cap A L C Z) :
    Calls Try.prog 18 #[.slice a n cap] w (CloneL w n L Z) := by
  obtain ⟨h1, h2, h3, h4⟩ := h
  cases a with
  | none =>
    obtain ⟨rfl, rfl⟩ := h1 rfl
    exact cloneL_nil w L Z
  | some x => exact cloneL w x n cap A L C Z hn hL h3 (fun r hr => ⟨(h4 r hr).1, (h4 r hr).2.2.1⟩)

/-- 'string(p)'. -/
theorem conv (w : World) (a : Option Addr) (c : Nat) (B : List UInt8) (h : Row w a B.length (byteAt B)) : (convert 31 9 (.slice a B.length c)).run Try.prog w = .ok (.string ⟨B.toArray⟩) w := by
  by_cases h0 : B.length = 0
  · obtain rfl : B = [] := List.eq_nil_of_length_eq_zero h0
    rw [run_convert_bytes_string w 31 9 5 _ _ c Try.underlying31 Try.underlying5 Try.underlying9]
    cases a <;> simp [Conv.bytesToString, loadCells]
    all_goals rfl
  · obtain ⟨b, off, rfl, hc⟩ := h (by omega)
    have := run_convert_bytes_arg (P := Try.prog) w 31 5 Try.underlying31 Try.underlying5 b off B.length c (B.map fun x => (x.toNat : Int)) (by simp) (fun i hi => by
      rw [hc i hi]
      simp [byteAt, hi]) 9 Try.underlying9
    rw [this]
    congr 2
    simp only [strOfNums, List.map_map]
    congr 2
    conv => rhs; rw [← List.map_id B]
    exact List.map_congr_left fun x _ => by simp
end Go.Proofs.Ythcfdoaeefnemaa.jn
