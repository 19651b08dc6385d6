/-
  Declared symbols: the law's small functions.
-/
import Derived.Test.YtnokeaddghfggaaMk
import Derived.OpenShut
import Derived.Lib.Hide
import Derived.WalkLawsBesides
import Derived.Deep.OwnRows
import Derived.Laws.Rows
import Derived.WalkSpells
import Derived.Laws.Tables
import Derived.WalkSmall
import Derived.Outline
import Derived.BigQuiet
import Derived.Deep.RegionLaw
import Derived.Deep.AppendLies
import Derived.Deep.RegionWith
import Derived.Laws.IdiomStrings
namespace Go.Proofs.Ytnokeaddghfggaa.ds
open Go.ChangeShapes Go.WideShapes Go.ChangeAt Go.RowKit Go.Deep Go.Proofs.Ytnokeaddghfggaa.mk
set_option linter.unusedVariables false
set_option linter.unusedSimpArgs false
/-- But for the blocks F, what was there is as it was. -/
structure Touch (F : Nat → Prop) (w w' : World) : Prop where
  os : w'.os = w.os
  tape : w'.tape = w.tape
  output : w'.output = w.output
  size : w.heap.size ≤ w'.heap.size
  block : ∀ k, k < w.heap.size → ¬ F k → w'.heap[k]? = w.heap[k]?
theorem Touch.refl (F : Nat → Prop) (w : World) : Touch F w w := ⟨rfl, rfl, rfl, Nat.le_refl _, fun _ _ _ => rfl⟩
theorem Touch.trans {F : Nat → Prop} {a b c : World} (h : Touch F a b) (k : Touch F b c) : Touch F a c :=
  ⟨k.os.trans h.os, k.tape.trans h.tape, k.output.trans h.output, Nat.le_trans h.size k.size, fun i hi hn => (k.block i (Nat.lt_of_lt_of_le hi h.size) hn).trans (h.block i hi hn)⟩
theorem Touch.mono {F G : Nat → Prop} {w w' : World} (h : Touch F w w') (e : ∀ k, k < w.heap.size → F k → G k) : Touch G w w' := ⟨h.os, h.tape, h.output, h.size, fun k hk hn => h.block k hk fun f => hn (e k hk f)⟩
theorem Touch.drew {F : Nat → Prop} {a w : World} (h : Touch F a w) : Touch F a w.drew := ⟨h.os, h.tape, h.output, h.size, h.block⟩
theorem Touch.alloc {F : Nat → Prop} {a w : World} (h : Touch F a w) (o : Obj) : Touch F a (w.alloc o) :=
  h.trans ⟨rfl, rfl, rfl, by simp, fun k hk _ => Below.heap_alloc _ _ _ hk⟩
theorem Touch.setCell {F : Nat → Prop} {a w : World} (h : Touch F a w) (p : Addr) (hp : p.block < a.heap.size → F p.block) (u : Value) : Touch F a (w.setCell p u) :=
  ⟨h.os, h.tape, h.output, by rw [show (w.setCell p u).heap.size = w.heap.size by simp [World.setCell]]; exact h.size, fun k hk hn => (Below.heap_setCell _ _ _ _ (fun e => hn (by rw [e]; exact hp (by rw [← e]; exact hk)))).trans (h.block k hk hn)⟩
theorem Touch.grown {F : Nat → Prop} {a w w' : World} {row : Option Nat} (h : Touch F a w) (hg : w.grownBy w' row) (hr : ∀ k, row = some k → k < a.heap.size → F k) : Touch F a w' :=
  ⟨hg.os.trans h.os, hg.tape.trans h.tape, hg.output.trans h.output, Nat.le_trans h.size hg.size, fun k hk hn => (hg.block k (Nat.lt_of_lt_of_le hk h.size) (fun e => hn (hr k e.symm hk))).trans (h.block k hk hn)⟩
theorem Touch.below {F : Nat → Prop} {w w' : World} (h : Touch F w w') {B : Nat} (hB : B ≤ w.heap.size) (hF : ∀ k, F k → B ≤ k) : Below B w w' :=
  ⟨h.os, h.tape, h.output, h.size, fun k hk => h.block k (by omega) (fun f => by have := hF k f; omega)⟩
theorem Touch.of_below {w w' : World} (h : Below w.heap.size w w') (F : Nat → Prop) : Touch F w w' := ⟨h.os, h.tape, h.output, h.size, fun k hk _ => h.block k hk⟩
theorem Touch.then {F : Nat → Prop} {a w w' : World} (h : Touch F a w) (hb : Below w.heap.size w w') : Touch F a w' := ⟨hb.os.trans h.os, hb.tape.trans h.tape, hb.output.trans h.output, Nat.le_trans h.size hb.size, fun k hk hn => (hb.block k (Nat.lt_of_lt_of_le hk h.size)).trans (h.block k hk hn)⟩
theorem onlyB_touch {b : Nat} {w w' : World} (h : OnlyB b w w') : Touch (fun j => j = b) w w' := ⟨h.os, h.tape, h.output, by rw [h.size]; exact Nat.le_refl _, fun k _ hn => h.block k hn⟩
/-- A slice of n elements, V i at place i; of an empty one nothing is said. -/
def Row (w : World) (a : Option Addr) (n : Nat) (V : Nat → Value) : Prop := 0 < n → ∃ b off, a = some ⟨b, off, none⟩ ∧ ∀ i, i < n → w.cell? ⟨b, off + i, none⟩ = some (V i)
theorem Row.below {w w' : World} {a : Option Addr} {n : Nat} {V : Nat → Value} (h : Row w a n V) (hb : Below w.heap.size w w') : Row w' a n V := by
  intro h0
  obtain ⟨b, off, rfl, hc⟩ := h h0
  refine ⟨b, off, rfl, fun i hi => ?_⟩
  have h1 := hc i hi
  exact (hb.cell (p := ⟨b, off + i, none⟩) (block_lt_of_cell h1)).trans h1
theorem Row.of_cells {w : World} {a : Addr} {n m : Nat} {V : Nat → Value} (hn : n ≤ m) (h : ∀ i, i < m → w.cell? (a.add i) = some (V i)) : Row w (some a) n V := by
  intro h0
  obtain ⟨b, off, spot⟩ := a
  have hspot : spot = none := by simpa [Addr.add] using World.cell?_spot (h 0 (by omega))
  subst hspot
  exact ⟨b, off, rfl, fun j hj => by rw [← Go.WideShapes.add_plain]; exact h j (by omega)⟩
theorem wf_zero (k : IntKind) : (Lit.int k 0).wf = true := by cases k <;> decide
/-- What a walk is told of a slice of integers that came in. -/
def IsInts (k : IntKind) (w : World) (a : Option Addr) (len cap : Nat) (Z : Nat → Int) : Prop :=
  (a = none → len = 0 ∧ cap = 0) ∧ len ≤ maxLen ∧ Row w a len (fun i => .int k (Z i)) ∧ ∀ i, (Lit.int k (Z i)).wf = true
theorem IsInts.nil (k : IntKind) (w : World) : IsInts k w none 0 0 (fun _ => 0) := ⟨fun _ => ⟨rfl, rfl⟩, by unfold maxLen; omega, fun h => by omega, fun i => wf_zero k⟩
theorem IsInts.mk {k : IntKind} {w : World} {a : Addr} {len cap : Nat} {zs : List Int} (hl : len ≤ cap) (hm : cap ≤ maxLen) (hz : zs.length = cap)
    (h : ∀ i, i < zs.length → w.cell? (a.add i) = some (.int k (zs.getD i 0))) (hwz : ∀ n ∈ zs, (Lit.int k n).wf = true) : IsInts k w (some a) len cap (fun i => zs.getD i 0) := by
  refine ⟨by simp, by omega, Row.of_cells (V := fun i => .int k (zs.getD i 0)) (by omega) h, fun i => ?_⟩
  show (Lit.int k (zs.getD i 0)).wf = true
  rw [List.getD_eq_getElem?_getD]
  cases e : zs[i]? with
  | none => exact wf_zero k
  | some s => exact hwz s (List.mem_of_getElem? e)

/-- The name number j. -/
def nm (j : Nat) : ByteArray := ⟨#[110, (48 + j).toUInt8]⟩
def nix (N : Nat → Int) (ln i : Nat) : Nat := if ln = 0 then 0 else (N (i % ln) % 8).toNat
def knd (K : Nat → Int) (lk i : Nat) : Int := if lk = 0 then 27 else if K (i % lk) % 3 = 0 then 1 else if K (i % lk) % 3 = 1 then 2 else 27
def hst (K : Nat → Int) (lk i : Nat) : Bool := if lk = 0 then false else decide (K (i % lk) % 3 < 2)
def mem (Q : Nat → Int) (lm n j : Nat) : Int := if j < lm ∧ Q j < n then Q j else -1
theorem nix_lt (N : Nat → Int) (ln i : Nat) : nix N ln i < 8 := by
  unfold nix; split <;> omega
def Same (v : Value) (w : World) (e : Ending) (w' : World) : Prop := e = .returned v ∧ w' = w
theorem nameIdx13 (w : World) (a : Option Addr) (ln cap : Nat) (N : Nat → Int) (i : Nat) (hl : ln ≤ 65536) (hi : i ≤ 65536) (hN : ∀ i, 0 ≤ N i ∧ N i < 256) (hc : Row w a ln fun i => .int .u8 (N i)) :
    Calls Try.prog 13 #[.slice a ln cap, .int .i64 i] w (Same (.int .u8 (nix N ln i : Nat)) w) := by
  by_cases h0 : ln = 0
  · subst h0
    clear hc hN
    go_enter Try.func13, Try.ntmps13
    go_wp2
    go_ret
    exact ⟨rfl, rfl⟩
  · obtain ⟨b, off, rfl, hcell⟩ := hc (by omega)
    have hlt : i % ln < ln := Nat.mod_lt _ (by omega)
    have c1 := hcell (i % ln) hlt
    obtain ⟨n1, n2⟩ := hN (i % ln)
    have e0 : ((ln : Int) == 0) = false := by simp; omega
    have hv : nix N ln i = (N (i % ln) % 8).toNat := by unfold nix; rw [if_neg h0]
    have HV := Lib.hid hv
    have h1 : 1 ≤ ln := by omega
    clear hcell hc hN h0 hv
    go_enter Try.func13, Try.ntmps13
    go_wp2
    go_ret
    refine ⟨?_, rfl⟩
    rw [HV.out]
    show Ending.returned (.int .u8 (N (i % ln) % 8)) = _
    rw [Int.toNat_of_nonneg (by omega)]
theorem hoisted11 (w : World) (a : Option Addr) (lk cap : Nat) (K : Nat → Int) (i : Nat) (hl : lk ≤ 65536) (hi : i ≤ 65536) (hN : ∀ i, 0 ≤ K i ∧ K i < 256) (hc : Row w a lk fun i => .int .u8 (K i)) :
    Calls Try.prog 11 #[.slice a lk cap, .int .i64 i] w (Same (.bool (hst K lk i)) w) := by
  by_cases h0 : lk = 0
  · subst h0
    clear hc hN
    go_enter Try.func11, Try.ntmps11
    go_wp2
    go_ret
    exact ⟨rfl, rfl⟩
  · obtain ⟨b, off, rfl, hcell⟩ := hc (by omega)
    have hlt : i % lk < lk := Nat.mod_lt _ (by omega)
    have c1 := hcell (i % lk) hlt
    obtain ⟨n1, n2⟩ := hN (i % lk)
    have e0 : ((lk : Int) == 0) = false := by simp; omega
    have hv : hst K lk i = decide (K (i % lk) % 3 < 2) := by unfold hst; rw [if_neg h0]
    have HV := Lib.hid hv
    have h1 : 1 ≤ lk := by omega
    clear hcell hc hN h0 hv
    go_enter Try.func11, Try.ntmps11
    go_wp2
    go_ret
    refine ⟨?_, rfl⟩
    rw [HV.out]
    rfl
theorem symKind15 (w : World) (a : Option Addr) (lk cap : Nat) (K : Nat → Int) (i : Nat) (hl : lk ≤ 65536) (hi : i ≤ 65536) (hN : ∀ i, 0 ≤ K i ∧ K i < 256) (hc : Row w a lk fun i => .int .u8 (K i)) :
    Calls Try.prog 15 #[.slice a lk cap, .int .i64 i] w (Same (.int .u8 (knd K lk i)) w) := by
  by_cases h0 : lk = 0
  · subst h0
    clear hc hN
    go_enter Try.func15, Try.ntmps15
    go_wp2
    go_ret
    exact ⟨rfl, rfl⟩
  · obtain ⟨b, off, rfl, hcell⟩ := hc (by omega)
    have hlt : i % lk < lk := Nat.mod_lt _ (by omega)
    have c1 : _ = some (Value.int .u8 (K (i % lk))) := hcell (i % lk) hlt
    obtain ⟨n1, n2⟩ := hN (i % lk)
    have e0 : ((lk : Int) == 0) = false := by simp; omega
    have hv : knd K lk i = if K (i % lk) % 3 = 0 then 1 else if K (i % lk) % 3 = 1 then 2 else 27 := by unfold knd; rw [if_neg h0]
    have HV := Lib.hid hv
    have h1 : 1 ≤ lk := by omega
    clear hcell hc hN h0 hv
    generalize K (i % lk) = x at *
    by_cases g0 : x % 3 = 0
    · go_enter Try.func15, Try.ntmps15
      go_wp2
      go_ret
      refine ⟨?_, rfl⟩
      rw [HV.out, if_pos g0]
      rfl
    · by_cases g1 : x % 3 = 1
      · go_enter Try.func15, Try.ntmps15
        go_wp2
        go_ret
        refine ⟨?_, rfl⟩
        rw [HV.out, if_neg g0, if_pos g1]
        rfl
      · have q0 : (x % 3 == 0) = false := by simpa using g0
        have q1 : (x % 3 == 1) = false := by simpa using g1
        go_enter Try.func15, Try.ntmps15
        go_wp2
        go_ret
        refine ⟨?_, rfl⟩
        rw [HV.out, if_neg g0, if_neg g1]
        rfl
theorem member12 (w : World) (a : Option Addr) (lm cap : Nat) (Q : Nat → Int) (j n : Nat) (hl : lm ≤ 65536) (hj : j < 256) (hn : n ≤ 65537) (hQ : ∀ i, 0 ≤ Q i ∧ Q i < 65536) (hc : Row w a lm fun i => .int .u16 (Q i)) :
    Calls Try.prog 12 #[.slice a lm cap, .int .u8 j, .int .i64 n] w (Same (.int .i64 (mem Q lm n j)) w) := by
  by_cases h0 : j < lm
  · obtain ⟨b, off, rfl, hcell⟩ := hc (by omega)
    have c1 : _ = some (Value.int .u16 (Q j)) := hcell j h0
    obtain ⟨n1, n2⟩ := hQ j
    have hv : mem Q lm n j = if Q j < n then Q j else -1 := by unfold mem; simp [h0]
    have HV := Lib.hid hv
    clear hcell hc hQ hv
    generalize Q j = x at *
    by_cases hx : x < n
    · go_enter Try.func12, Try.ntmps12
      go_wp2
      go_ret
      refine ⟨?_, rfl⟩
      rw [HV.out, if_pos hx]
      rfl
    · go_enter Try.func12, Try.ntmps12
      go_wp2
      go_ret
      refine ⟨?_, rfl⟩
      rw [HV.out, if_neg (by omega)]
      rfl
  · have hv : mem Q lm n j = -1 := by unfold mem; simp [h0]
    have HV := Lib.hid hv
    clear hc hQ hv
    go_enter Try.func12, Try.ntmps12
    go_wp2
    go_ret
    refine ⟨?_, rfl⟩
    rw [HV.out]
    rfl
theorem isHoisted17 (w : World) (x : Int) (hx : 0 ≤ x ∧ x < 256) : Calls Try.prog 17 #[.int .u8 x] w (Same (.bool (x == 1 || x == 2)) w) := by
  by_cases g0 : x = 1
  · subst g0
    go_enter Try.func17, Try.ntmps17
    go_wp2
    go_ret
    exact ⟨rfl, rfl⟩
  · have q0 : (x == 1) = false := by simpa using g0
    go_enter Try.func17, Try.ntmps17
    go_wp2
    go_ret
    refine ⟨?_, rfl⟩
    rw [q0, Bool.false_or]
    rfl
def BelP (v : Value) (w : World) (e : Ending) (w' : World) : Prop := e = .returned v ∧ Below w.heap.size w w'
theorem ref10 (w : World) (i : Nat) (hi : i ≤ 65537) : Calls Try.prog 10 #[.int .i64 i] w (BelP (.agg #[.int .u32 1, .int .u32 i]) w) := by
  go_enter Try.func10, Try.ntmps10
  go_wp2
  exact bodyPost_ret (v := .agg #[.int .u32 1, .int .u32 i]) (by simp [results, Try.results10, go_sem]) rfl ⟨rfl, (Below.refl _ _).alloc (Nat.le_refl _) _⟩
theorem mode8 (w : World) : Calls Try.prog 8 #[.bool false] w (Same (.int .u8 0) w) := by
  go_enter Try.func8, Try.ntmps8
  go_wp2
  go_ret
  exact ⟨rfl, rfl⟩
end Go.Proofs.Ytnokeaddghfggaa.ds
