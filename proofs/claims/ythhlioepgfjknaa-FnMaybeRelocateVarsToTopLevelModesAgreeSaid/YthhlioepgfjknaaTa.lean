/-
  Chains of conditionals: places, the visitor, the recursion.
-/
import Derived.Test.YthhlioepgfjknaaProg
import Derived.WalkKit
import Derived.ProofKit
import Derived.Below
import Derived.ChangeOld
import Derived.OpenShut
import Derived.ChangeOld
import Derived.Lib.Hide
import Derived.WalkLawsBesides
import Derived.Deep.OwnRows
import Derived.Laws.Rows
import Derived.WalkSpells
import Derived.Laws.Tables
import Derived.WalkSmall
import Derived.Outline
import Derived.BigQuiet
import Derived.Deep.QuietTactic
import Derived.Deep.RegionLaw
import Derived.Deep.CutBlock
import Derived.IntWalk
import Derived.OwnWalk
import Derived.Deep.WholeRow
import Derived.Laws.CopyOwn
import Derived.Deep.RegionHeld
import Derived.Laws.MakeOwn
namespace Go.Proofs.Ythhlioepgfjknaa.ch
open Go.ChangeShapes Go.WideShapes Go.ChangeAt Go.RowKit Go.Deep
set_option linter.unusedVariables false
set_option linter.unusedSimpArgs false
set_option maxRecDepth 100000
set_option maxHeartbeats 4000000
/-- A slice of n elements, V i at place i; of an empty one nothing is said. -/
def Row (w : World) (a : Option Addr) (n : Nat) (V : Nat → Value) : Prop := 0 < n → ∃ b off, a = some ⟨b, off, none⟩ ∧ ∀ i, i < n → w.cell? ⟨b, off + i, none⟩ = some (V i)
theorem Row.below {w w' : World} {a : Option Addr} {n : Nat} {V : Nat → Value} (h : Row w a n V) (hb : Below w.heap.size w w') : Row w' a n V := by
  intro h0
  obtain ⟨b, off, rfl, hc⟩ := h h0
  refine ⟨b, off, rfl, fun i hi => ?_⟩
  have h1 := hc i hi
  exact (hb.cell (p := ⟨b, off + i, none⟩) (block_lt_of_cell h1)).trans h1
theorem Row.of_cells {w : World} {a : Addr} {n m : Nat} {V : Nat → Value} (hn : n ≤ m) (h : ∀ i, i < m → w.cell? (a.add i) = some (V i)) : Row w (some a) n V := by
  intro h0
  obtain ⟨b, off, spot⟩ := a
  have hspot : spot = none := by simpa [Addr.add] using World.cell?_spot (h 0 (by omega))
  subst hspot
  exact ⟨b, off, rfl, fun j hj => by rw [← Go.WideShapes.add_plain]; exact h j (by omega)⟩
theorem wf_zero (k : IntKind) : (Lit.int k 0).wf = true := by cases k <;> decide
/-- What a walk is told of a slice of integers that came in. -/
def IsInts (k : IntKind) (w : World) (a : Option Addr) (len cap : Nat) (Z : Nat → Int) : Prop :=
  (a = none → len = 0 ∧ cap = 0) ∧ len ≤ maxLen ∧ Row w a len (fun i => .int k (Z i)) ∧ ∀ i, (Lit.int k (Z i)).wf = true
theorem IsInts.nil (k : IntKind) (w : World) : IsInts k w none 0 0 (fun _ => 0) := ⟨fun _ => ⟨rfl, rfl⟩, by unfold maxLen; omega, fun h => by omega, fun i => wf_zero k⟩
theorem IsInts.mk {k : IntKind} {w : World} {a : Addr} {len cap : Nat} {zs : List Int} (hl : len ≤ cap) (hm : cap ≤ maxLen) (hz : zs.length = cap)
    (h : ∀ i, i < zs.length → w.cell? (a.add i) = some (.int k (zs.getD i 0))) (hwz : ∀ n ∈ zs, (Lit.int k n).wf = true) : IsInts k w (some a) len cap (fun i => zs.getD i 0) := by
  refine ⟨by simp, by omega, Row.of_cells (V := fun i => .int k (zs.getD i 0)) (by omega) h, fun i => ?_⟩
  show (Lit.int k (zs.getD i 0)).wf = true
  rw [List.getD_eq_getElem?_getD]
  cases e : zs[i]? with
  | none => exact wf_zero k
  | some s => exact hwz s (List.mem_of_getElem? e)
/-- What a walk is told of a slice of bools that came in. -/
def IsBools (w : World) (a : Option Addr) (len cap : Nat) (Z : Nat → Bool) : Prop := (a = none → len = 0 ∧ cap = 0) ∧ len ≤ maxLen ∧ Row w a len (fun i => .bool (Z i))
theorem IsBools.nil (w : World) : IsBools w none 0 0 (fun _ => false) := ⟨fun _ => ⟨rfl, rfl⟩, by unfold maxLen; omega, fun h => by omega⟩
/-- But for the blocks F, what was there is as it was. -/
structure Touch (F : Nat → Prop) (w w' : World) : Prop where
  os : w'.os = w.os
  tape : w'.tape = w.tape
  output : w'.output = w.output
  size : w.heap.size ≤ w'.heap.size
  block : ∀ k, k < w.heap.size → ¬ F k → w'.heap[k]? = w.heap[k]?
theorem Touch.refl (F : Nat → Prop) (w : World) : Touch F w w := ⟨rfl, rfl, rfl, Nat.le_refl _, fun _ _ _ => rfl⟩
theorem Touch.trans {F : Nat → Prop} {a b c : World} (h : Touch F a b) (k : Touch F b c) : Touch F a c :=
  ⟨k.os.trans h.os, k.tape.trans h.tape, k.output.trans h.output, Nat.le_trans h.size k.size, fun i hi hn => (k.block i (Nat.lt_of_lt_of_le hi h.size) hn).trans (h.block i hi hn)⟩
theorem Touch.mono {F G : Nat → Prop} {w w' : World} (h : Touch F w w') (e : ∀ k, k < w.heap.size → F k → G k) : Touch G w w' := ⟨h.os, h.tape, h.output, h.size, fun k hk hn => h.block k hk fun f => hn (e k hk f)⟩
theorem Touch.drew {F : Nat → Prop} {a w : World} (h : Touch F a w) : Touch F a w.drew := ⟨h.os, h.tape, h.output, h.size, h.block⟩
theorem Touch.alloc {F : Nat → Prop} {a w : World} (h : Touch F a w) (o : Obj) : Touch F a (w.alloc o) :=
  h.trans ⟨rfl, rfl, rfl, by simp, fun k hk _ => Below.heap_alloc _ _ _ hk⟩
theorem Touch.setCell {F : Nat → Prop} {a w : World} (h : Touch F a w) (p : Addr) (hp : p.block < a.heap.size → F p.block) (u : Value) : Touch F a (w.setCell p u) :=
  ⟨h.os, h.tape, h.output, by rw [show (w.setCell p u).heap.size = w.heap.size by simp [World.setCell]]; exact h.size, fun k hk hn => (Below.heap_setCell _ _ _ _ (fun e => hn (by rw [e]; exact hp (by rw [← e]; exact hk)))).trans (h.block k hk hn)⟩
theorem Touch.grown {F : Nat → Prop} {a w w' : World} {row : Option Nat} (h : Touch F a w) (hg : w.grownBy w' row) (hr : ∀ k, row = some k → k < a.heap.size → F k) : Touch F a w' :=
  ⟨hg.os.trans h.os, hg.tape.trans h.tape, hg.output.trans h.output, Nat.le_trans h.size hg.size, fun k hk hn => (hg.block k (Nat.lt_of_lt_of_le hk h.size) (fun e => hn (hr k e.symm hk))).trans (h.block k hk hn)⟩
theorem Touch.below {F : Nat → Prop} {w w' : World} (h : Touch F w w') {B : Nat} (hB : B ≤ w.heap.size) (hF : ∀ k, F k → B ≤ k) : Below B w w' :=
  ⟨h.os, h.tape, h.output, h.size, fun k hk => h.block k (by omega) (fun f => by have := hF k f; omega)⟩
theorem Touch.of_below {w w' : World} (h : Below w.heap.size w w') (F : Nat → Prop) : Touch F w w' := ⟨h.os, h.tape, h.output, h.size, fun k hk _ => h.block k hk⟩
theorem Touch.then {F : Nat → Prop} {a w w' : World} (h : Touch F a w) (hb : Below w.heap.size w w') : Touch F a w' := ⟨hb.os.trans h.os, hb.tape.trans h.tape, hb.output.trans h.output, Nat.le_trans h.size hb.size, fun k hk hn => (hb.block k (Nat.lt_of_lt_of_le hk h.size)).trans (h.block k hk hn)⟩
@[go_sem] theorem as26_78_yes (v : Value) (w : World) : (Instr.typeAssert (.iface 78 v) 26 78 true).run Try.prog w = .ok (.tuple #[v, .bool true]) w := by kernel_rfl
@[go_sem] theorem as26_78_nil (w : World) : (Instr.typeAssert .nilIface 26 78 true).run Try.prog w = .ok (.tuple #[.pointer none, .bool false]) w := by kernel_rfl
theorem as26_78_zero (w : World) : (do pure (Value.tuple #[← zeroValue 78, .bool false]) : Sem Value).run Try.prog w = .ok (.tuple #[.pointer none, .bool false]) w := by kernel_rfl
@[go_sem] theorem as26_78_no (u : TypeId) (v : Value) (w : World) (h : u ≠ 78) : (Instr.typeAssert (.iface u v) 26 78 true).run Try.prog w = .ok (.tuple #[.pointer none, .bool false]) w := by
  have e : (Instr.typeAssert (.iface u v) 26 78 true).run Try.prog w = (if u = 78 then (pure (Value.tuple #[v, .bool true]) : Sem Value) else (do pure (Value.tuple #[← zeroValue 78, .bool false]))).run Try.prog w := by kernel_rfl
  rw [e, if_neg h]
  exact as26_78_zero w

/-- The place that the statement gives to the k-th piece. -/
def lca (m : Nat) (z : Nat → Int) (k : Nat) : Int := if m = 0 then (k : Int) else z (k % m) / 8
theorem loc30 (w : World) (a : Option Addr) (m c : Nat) (z : Nat → Int) (k : Nat) (hk : k ≤ 16384) (hr : Row w a m (fun i => .int .i32 (z i))) : Calls Try.prog 30 #[.slice a m c, .int .i64 k] w fun e w' => e = .returned (.int .i32 (lca m z k)) ∧ w = w' := by
  by_cases h0 : m = 0
  · have HE : Hid (lca m z k = k) := Lib.hid (by simp [lca, h0])
    subst h0
    have e1 : IntKind.i32.wrap (k : Int) = (k : Int) := Go.IntWalk.i32_in _ (by omega)
    clear hr
    go_enter Try.func30, Try.ntmps30
    go_wp2_with fail
    go_ret
    exact ⟨by rw [HE.out]; rfl, rfl⟩
  · have HE : Hid (lca m z k = z (k % m) / 8) := Lib.hid (by simp [lca, h0])
    obtain ⟨b, off, rfl, hc⟩ := hr (by omega)
    have c1 := hc (k % m) (Nat.mod_lt _ (by omega))
    have e0 : ((m : Int) == 0) = false := by simp; omega
    have hlt : k % m < m := Nat.mod_lt _ (by omega)
    have e1 : (k : Int) % (m : Int) = ((k % m : Nat) : Int) := rfl
    have e2 : ((k : Int).tmod (m : Int)) = ((k % m : Nat) : Int) := rfl
    generalize k % m = q at *
    clear hc
    go_enter Try.func30, Try.ntmps30
    go_wp2_with fail
    go_ret
    exact ⟨by rw [HE.out]; rfl, rfl⟩
/-- An expression: what it is and where it stands. -/
abbrev ex (T b : Nat) (l : Int) : Value := .agg #[.iface T (.pointer (some ⟨b, 0, none⟩)), .int .i32 l]
theorem shift10 (w : World) (T b : Nat) (l : Int) (hl : -1073741824 ≤ l ∧ l ≤ 1073741824) : Calls Try.prog 10 #[ex T b l] w fun e w' => e = .returned (ex T b (l + 1048576)) ∧ Below w.heap.size w w' := by
  have e1 : IntKind.i32.wrap (l + 1048576) = l + 1048576 := Go.IntWalk.i32_in _ (by omega)
  go_enter Try.func10, Try.ntmps10
  go_wp2_with fail
  refine bodyPost_ret (v := ex T b (l + 1048576)) (by simp [results, Try.results10, go_sem]) rfl ⟨rfl, ?_⟩
  exact ((Below.refl _ _).alloc (Nat.le_refl _) _).alloc (by simp) _
/-- The visitor. -/
abbrev vis : Value := .func (.func 10) #[] #[]
/-- A leaf of the chain. -/
theorem leaf31 (w : World) (b : Nat) (l : Int) (hl : -1073741824 ≤ l ∧ l ≤ 1073741824) : Calls Try.prog 31 #[.pointer none, ex 42 b l, vis] w fun e w' => e = .returned (ex 42 b (l + 1048576)) ∧ Below w.heap.size w w' := by
  go_enter Try.func31, Try.ntmps31
  have hw1 : Below w.heap.size w ((w.alloc (Obj.cells #[Value.iface 42 (Value.pointer (some { block := b, off := 0 })), Value.int IntKind.i32 l] 30)).alloc (Obj.cells #[Value.nilIface, Value.int IntKind.i32 0] 30)) := ((Below.refl _ _).alloc (Nat.le_refl _) _).alloc (by simp) _
  have hx2 : ((w.alloc (Obj.cells #[Value.iface 42 (Value.pointer (some { block := b, off := 0 })), Value.int IntKind.i32 l] 30)).alloc (Obj.cells #[Value.nilIface, Value.int IntKind.i32 0] 30)).heap[w.heap.size + 1]? = some (.cells #[Value.nilIface, Value.int IntKind.i32 0] 30 (0, 0)) := by
    have h := heap_alloc_new (w.alloc (Obj.cells #[Value.iface 42 (Value.pointer (some { block := b, off := 0 })), Value.int IntKind.i32 l] 30)) (Obj.cells #[Value.nilIface, Value.int IntKind.i32 0] 30)
    simpa using h
  have k0 : ((w.alloc (Obj.cells #[Value.iface 42 (Value.pointer (some { block := b, off := 0 })), Value.int IntKind.i32 l] 30)).alloc (Obj.cells #[Value.nilIface, Value.int IntKind.i32 0] 30)).cell? ⟨w.heap.size, 0, none⟩ = some (.iface 42 (.pointer (some ⟨b, 0, none⟩))) := by simp
  have k1 : ((w.alloc (Obj.cells #[Value.iface 42 (Value.pointer (some { block := b, off := 0 })), Value.int IntKind.i32 l] 30)).alloc (Obj.cells #[Value.nilIface, Value.int IntKind.i32 0] 30)).cell? ⟨w.heap.size, 1, none⟩ = some (.int .i32 l) := by simp
  go_upto_region 6 with (fail)
  generalize (w.alloc (Obj.cells #[Value.iface 42 (Value.pointer (some { block := b, off := 0 })), Value.int IntKind.i32 l] 30)).alloc (Obj.cells #[Value.nilIface, Value.int IntKind.i32 0] 30) = W1 at *
  have HX := Lib.hid hx2
  have HW := Lib.hid hw1
  clear hx2 hw1
  go_wp2_with (go_at_call 10; refine (shift10 _ 42 b l hl).mono ?_; rintro e w' ⟨rfl, hb⟩; have x1 := (hb.block _ (lt_of_block HX.out)).trans HX.out; have X1 := Lib.hid x1; have a0 : w'.cell? ⟨w.heap.size + 1, 0, none⟩ = some .nilIface := (cell_of_row _ _ 0 _ _ _ x1).trans rfl; have b0 := frozen_of_row _ _ 0 _ _ x1; have x2 := heap_setCell_same _ _ 0 _ _ (Value.iface 42 (Value.pointer (some { block := b, off := 0 }))) x1; have a1 : (w'.setCell ⟨w.heap.size + 1, 0, none⟩ (Value.iface 42 (Value.pointer (some { block := b, off := 0 })))).cell? ⟨w.heap.size + 1, 1, none⟩ = some (.int .i32 0) := (cell_of_row _ _ 1 _ _ _ x2).trans rfl; have b1 := frozen_of_row _ _ 1 _ _ x2; have x3 := heap_setCell_same _ _ 1 _ _ (.int .i32 (l + 1048576)) x2; have X3 := Lib.hid x3; have HB := Lib.hid hb; clear x1 x2 x3 hb)
  have x3 := X3.out
  have r0 := (cell_of_row _ _ 0 _ _ _ x3)
  have r1 := (cell_of_row _ _ 1 _ _ _ x3)
  refine bodyPost_ret (v := ex 42 b (l + 1048576)) (by simp [results, Try.results31, go_sem, r0, r1]) rfl ⟨rfl, ?_⟩
  have h := HW.out.trans (HB.out.mono HW.out.size)
  exact (h.setCell (by simp) _).setCell (by simp) _
theorem node31 (w : World) (b : Nat) (tv : Value) (l l0 : Int) (T1 b1 T2 b2 : Nat) (l1 l1' l2 l2' : Int) (Pa Pb Pc : World → Prop) (F : Nat → Prop)
    (hb : w.heap[b]? = some (.cells #[tv, .int .i32 l0, .iface T1 (.pointer (some ⟨b1, 0, none⟩)), .int .i32 l1, .iface T2 (.pointer (some ⟨b2, 0, none⟩)), .int .i32 l2] 83 (0, 0)))
    (hp : Pa w) (sA : ∀ u u', Pa u → Touch (fun k => k = b ∨ w.heap.size ≤ k) u u' → Pa u') (sB : ∀ u u', Pb u → Touch (fun k => k = b ∨ w.heap.size ≤ k) u u' → Pb u') (sC : ∀ u u', Pc u → Touch (fun k => k = b ∨ w.heap.size ≤ k) u u' → Pc u')
    (hF : ¬ F b) (hFlt : ∀ k, F k → k < w.heap.size)
    (h1 : ∀ w, Pa w → Calls Try.prog 31 #[.pointer none, ex T1 b1 l1, vis] w fun e w' => e = .returned (ex T1 b1 l1') ∧ Pb w' ∧ Touch F w w')
    (h2 : ∀ w, Pb w → Calls Try.prog 31 #[.pointer none, ex T2 b2 l2, vis] w fun e w' => e = .returned (ex T2 b2 l2') ∧ Pc w' ∧ Touch F w w') :
    Calls Try.prog 31 #[.pointer none, ex 78 b l, vis] w fun e w' => e = .returned (ex 78 b l) ∧ Pc w' ∧ w'.heap[b]? = some (.cells #[tv, .int .i32 l0, .iface T1 (.pointer (some ⟨b1, 0, none⟩)), .int .i32 l1', .iface T2 (.pointer (some ⟨b2, 0, none⟩)), .int .i32 l2'] 83 (0, 0)) ∧ Touch (fun k => k = b ∨ F k) w w' := by
  have hlt : b < w.heap.size := lt_of_block hb
  have HB := Lib.hid hb
  have HP := Lib.hid hp
  have H1 := Lib.hid h1
  have H2 := Lib.hid h2
  have SA := Lib.hid sA
  have SB := Lib.hid sB
  have SC := Lib.hid sC
  clear hb hp h1 h2 sA sB sC
  go_enter Try.func31, Try.ntmps31
  go_upto_region 3 with (fail)
  have hw1 : Below w.heap.size w ((w.alloc (Obj.cells #[Value.iface 78 (Value.pointer (some { block := b, off := 0 })), Value.int IntKind.i32 l] 30)).alloc (Obj.cells #[Value.nilIface, Value.int IntKind.i32 0] 30)) := ((Below.refl _ _).alloc (Nat.le_refl _) _).alloc (by simp) _
  have hx1 : ((w.alloc (Obj.cells #[Value.iface 78 (Value.pointer (some { block := b, off := 0 })), Value.int IntKind.i32 l] 30)).alloc (Obj.cells #[Value.nilIface, Value.int IntKind.i32 0] 30)).heap[w.heap.size]? = some (.cells #[Value.iface 78 (Value.pointer (some { block := b, off := 0 })), Value.int IntKind.i32 l] 30 (0, 0)) := (heap_alloc_old _ _ (by simp)).trans (heap_alloc_new _ _)
  have hx2 : ((w.alloc (Obj.cells #[Value.iface 78 (Value.pointer (some { block := b, off := 0 })), Value.int IntKind.i32 l] 30)).alloc (Obj.cells #[Value.nilIface, Value.int IntKind.i32 0] 30)).heap[w.heap.size + 1]? = some (.cells #[Value.nilIface, Value.int IntKind.i32 0] 30 (0, 0)) := by
    have h := heap_alloc_new (w.alloc (Obj.cells #[Value.iface 78 (Value.pointer (some { block := b, off := 0 })), Value.int IntKind.i32 l] 30)) (Obj.cells #[Value.nilIface, Value.int IntKind.i32 0] 30)
    simpa using h
  generalize (w.alloc (Obj.cells #[Value.iface 78 (Value.pointer (some { block := b, off := 0 })), Value.int IntKind.i32 l] 30)).alloc (Obj.cells #[Value.nilIface, Value.int IntKind.i32 0] 30) = W1 at *
  have hb1 := (hw1.block b hlt).trans HB.out
  have HW1 := Lib.hid hw1
  have HX1 := Lib.hid hx1
  have HX2 := Lib.hid hx2
  have P1 := Lib.hid (SA.out _ _ HP.out (Touch.of_below hw1 _))
  have k2 : W1.cell? ⟨b, 2, none⟩ = some (.iface T1 (.pointer (some ⟨b1, 0, none⟩))) := (cell_of_row _ _ 2 _ _ _ hb1).trans rfl
  have k3 : W1.cell? ⟨b, 3, none⟩ = some (.int .i32 l1) := (cell_of_row _ _ 3 _ _ _ hb1).trans rfl
  have HB1 := Lib.hid hb1
  clear hw1 hx1 hx2 hb1
  go_upto_region 4 with (go_at_call 31; refine (H1.out _ P1.out).mono ?_; rintro e w2 ⟨rfl, hp2, ht2⟩; have x1 := (ht2.block b (lt_of_block HB1.out) hF).trans HB1.out; have a0 : w2.cell? ⟨b, 2, none⟩ = some (.iface T1 (.pointer (some ⟨b1, 0, none⟩))) := (cell_of_row _ _ 2 _ _ _ x1).trans rfl; have b0 := frozen_of_row _ _ 2 _ _ x1; have x2 := heap_setCell_same _ _ 2 _ _ (.iface T1 (.pointer (some ⟨b1, 0, none⟩))) x1; have a1 : (w2.setCell ⟨b, 2, none⟩ (.iface T1 (.pointer (some ⟨b1, 0, none⟩)))).cell? ⟨b, 3, none⟩ = some (.int .i32 l1) := (cell_of_row _ _ 3 _ _ _ x2).trans rfl; have b1' := frozen_of_row _ _ 3 _ _ x2; have x3 := heap_setCell_same _ _ 3 _ _ (.int .i32 l1') x2; have X3 := Lib.hid x3; have HP2 := Lib.hid hp2; have HT2 := Lib.hid ht2; clear x1 x2 x3 hp2 ht2)
  have ht3 : Touch (fun k => k = b ∨ F k) W1 ((w2.setCell ⟨b, 2, none⟩ (.iface T1 (.pointer (some ⟨b1, 0, none⟩)))).setCell ⟨b, 3, none⟩ (.int .i32 l1')) := ((HT2.out.mono fun _ _ h => .inr h).setCell _ (fun _ => .inl rfl) _).setCell _ (fun _ => .inl rfl) _
  have htb : Touch (fun k => k = b ∨ w.heap.size ≤ k) w2 ((w2.setCell ⟨b, 2, none⟩ (.iface T1 (.pointer (some ⟨b1, 0, none⟩)))).setCell ⟨b, 3, none⟩ (.int .i32 l1')) := ((Touch.refl (fun k => k = b ∨ w.heap.size ≤ k) _).setCell _ (fun _ => .inl rfl) _).setCell _ (fun _ => .inl rfl) _
  have P2 := Lib.hid (SB.out _ _ HP2.out htb)
  have hx3 := X3.out
  simp only [List.setIfInBounds_toArray, List.set_cons_zero, List.set_cons_succ] at hx3
  clear htb a0 a1 b0 b1' k2 k3 X3 HP2 HT2 HB1
  generalize (w2.setCell ⟨b, 2, none⟩ (.iface T1 (.pointer (some ⟨b1, 0, none⟩)))).setCell ⟨b, 3, none⟩ (.int .i32 l1') = W2 at *
  have k4 : W2.cell? ⟨b, 4, none⟩ = some (.iface T2 (.pointer (some ⟨b2, 0, none⟩))) := (cell_of_row _ _ 4 _ _ _ hx3).trans rfl
  have k5 : W2.cell? ⟨b, 5, none⟩ = some (.int .i32 l2) := (cell_of_row _ _ 5 _ _ _ hx3).trans rfl
  have HT3 := Lib.hid ht3
  have HB1 := Lib.hid hx3
  clear ht3 hx3 w2
  go_upto_region 5 with (go_at_call 31; refine (H2.out _ P2.out).mono ?_; rintro e w2 ⟨rfl, hp2, ht2⟩; have x1 := (ht2.block b (lt_of_block HB1.out) hF).trans HB1.out; have a0 : w2.cell? ⟨b, 4, none⟩ = some (.iface T2 (.pointer (some ⟨b2, 0, none⟩))) := (cell_of_row _ _ 4 _ _ _ x1).trans rfl; have b0 := frozen_of_row _ _ 4 _ _ x1; have x2 := heap_setCell_same _ _ 4 _ _ (.iface T2 (.pointer (some ⟨b2, 0, none⟩))) x1; have a1 : (w2.setCell ⟨b, 4, none⟩ (.iface T2 (.pointer (some ⟨b2, 0, none⟩)))).cell? ⟨b, 5, none⟩ = some (.int .i32 l2) := (cell_of_row _ _ 5 _ _ _ x2).trans rfl; have b1' := frozen_of_row _ _ 5 _ _ x2; have x3 := heap_setCell_same _ _ 5 _ _ (.int .i32 l2') x2; have X3 := Lib.hid x3; have HP2 := Lib.hid hp2; have HT2 := Lib.hid ht2; clear x1 x2 x3 hp2 ht2)
  have ht4 : Touch (fun k => k = b ∨ F k) W1 ((w2.setCell ⟨b, 4, none⟩ (.iface T2 (.pointer (some ⟨b2, 0, none⟩)))).setCell ⟨b, 5, none⟩ (.int .i32 l2')) := HT3.out.trans (((HT2.out.mono fun _ _ h => .inr h).setCell _ (fun _ => .inl rfl) _).setCell _ (fun _ => .inl rfl) _)
  have htb : Touch (fun k => k = b ∨ w.heap.size ≤ k) w2 ((w2.setCell ⟨b, 4, none⟩ (.iface T2 (.pointer (some ⟨b2, 0, none⟩)))).setCell ⟨b, 5, none⟩ (.int .i32 l2')) := ((Touch.refl (fun k => k = b ∨ w.heap.size ≤ k) _).setCell _ (fun _ => .inl rfl) _).setCell _ (fun _ => .inl rfl) _
  have P3 := Lib.hid (SC.out _ _ HP2.out htb)
  have hx3 := X3.out
  simp only [List.setIfInBounds_toArray, List.set_cons_zero, List.set_cons_succ] at hx3
  clear htb a0 a1 b0 b1' k4 k5 X3 HP2 HT2 HB1 HT3
  generalize (w2.setCell ⟨b, 4, none⟩ (.iface T2 (.pointer (some ⟨b2, 0, none⟩)))).setCell ⟨b, 5, none⟩ (.int .i32 l2') = W3 at *
  have hn1 : ¬ (w.heap.size = b ∨ F w.heap.size) := by
    rintro (h | h)
    · omega
    · have := hFlt _ h; omega
  have hn2 : ¬ (w.heap.size + 1 = b ∨ F (w.heap.size + 1)) := by
    rintro (h | h)
    · omega
    · have := hFlt _ h; omega
  have y1 := (ht4.block _ (lt_of_block HX1.out) hn1).trans HX1.out
  have y2 := (ht4.block _ (lt_of_block HX2.out) hn2).trans HX2.out
  have g0 : W3.cell? ⟨w.heap.size, 0, none⟩ = some (.iface 78 (.pointer (some ⟨b, 0, none⟩))) := (cell_of_row _ _ 0 _ _ _ y1).trans rfl
  have g1 : W3.cell? ⟨w.heap.size, 1, none⟩ = some (.int .i32 l) := (cell_of_row _ _ 1 _ _ _ y1).trans rfl
  have a0 : W3.cell? ⟨w.heap.size + 1, 0, none⟩ = some .nilIface := (cell_of_row _ _ 0 _ _ _ y2).trans rfl
  have b0 := frozen_of_row _ _ 0 _ _ y2
  have x2 := heap_setCell_same _ _ 0 _ _ (Value.iface 78 (Value.pointer (some { block := b, off := 0 }))) y2
  have a1 : (W3.setCell ⟨w.heap.size + 1, 0, none⟩ (Value.iface 78 (Value.pointer (some { block := b, off := 0 })))).cell? ⟨w.heap.size + 1, 1, none⟩ = some (.int .i32 0) := (cell_of_row _ _ 1 _ _ _ x2).trans rfl
  have b1' := frozen_of_row _ _ 1 _ _ x2
  have X3 := Lib.hid (heap_setCell_same _ _ 1 _ _ (.int .i32 l) x2)
  have HX3 := Lib.hid hx3
  have HT4 := Lib.hid ht4
  clear y1 y2 x2 hx3 ht4 HX1 HX2 hn1 hn2
  go_wp2_with fail
  have x3 := X3.out
  have r0 := (cell_of_row _ _ 0 _ _ _ x3)
  have r1 := (cell_of_row _ _ 1 _ _ _ x3)
  refine bodyPost_ret (v := ex 78 b l) (by simp [results, Try.results31, go_sem, r0, r1]) rfl ⟨rfl, ?_, ?_, ?_⟩
  · exact SC.out _ _ P3.out (((Touch.refl (fun k => k = b ∨ w.heap.size ≤ k) _).setCell _ (fun _ => .inr (by simp)) _).setCell _ (fun _ => .inr (by simp)) _)
  · exact (heap_setCell_other _ _ _ _ (by simp; omega)).trans ((heap_setCell_other _ _ _ _ (by simp; omega)).trans HX3.out)
  · have h1 : Touch (fun k => k = b ∨ F k) w W3 := (Touch.of_below HW1.out _).trans HT4.out
    exact (h1.setCell _ (fun h => absurd h (by show ¬ (w.heap.size + 1 < w.heap.size); omega)) _).setCell _ (fun h => absurd h (by show ¬ (w.heap.size + 1 < w.heap.size); omega)) _
/-- The blocks of a chain of n conditionals. -/
structure Bl where
  n : Nat
  e : Nat → Nat
  t : Nat → Nat
  o : Nat → Nat
/-- What stands at level i. -/
def Bl.T (c : Bl) (i : Nat) : Nat := if i < c.n then 78 else 42
def Bl.b (c : Bl) (i : Nat) : Nat := if i < c.n then c.e i else c.o c.n
def lc (c : Bl) (L : Nat → Int) (d : Int) (i : Nat) : Int := if i < c.n then L (3 * i + 2) else L (3 * c.n) + d
def nde (c : Bl) (s : Nat → Bool) (L : Nat → Int) (d : Int) (i : Nat) : Array Value :=
  if s i = true then #[.iface 79 (.pointer (some ⟨c.t i, 0, none⟩)), .int .i32 (L (3 * i)), .iface (c.T (i + 1)) (.pointer (some ⟨c.b (i + 1), 0, none⟩)), .int .i32 (lc c L d (i + 1)), .iface 42 (.pointer (some ⟨c.o i, 0, none⟩)), .int .i32 (L (3 * i + 1) + d)]
  else #[.iface 79 (.pointer (some ⟨c.t i, 0, none⟩)), .int .i32 (L (3 * i)), .iface 42 (.pointer (some ⟨c.o i, 0, none⟩)), .int .i32 (L (3 * i + 1) + d), .iface (c.T (i + 1)) (.pointer (some ⟨c.b (i + 1), 0, none⟩)), .int .i32 (lc c L d (i + 1))]
/-- The chain from level i on, its leaves moved by d. -/
def Nds (c : Bl) (s : Nat → Bool) (L : Nat → Int) (d : Int) (i : Nat) (w : World) : Prop := ∀ j, i ≤ j → j < c.n → w.heap[c.e j]? = some (.cells (nde c s L d j) 83 (0, 0))
theorem Nds.keep {c : Bl} {s : Nat → Bool} {L : Nat → Int} {d : Int} {i : Nat} {w w' : World} {F : Nat → Prop} (h : Nds c s L d i w) (ht : Touch F w w') (hF : ∀ j, i ≤ j → j < c.n → ¬ F (c.e j)) : Nds c s L d i w' :=
  fun j h1 h2 => (ht.block _ (lt_of_block (h j h1 h2)) (hF j h1 h2)).trans (h j h1 h2)
theorem chain31 (c : Bl) (s : Nat → Bool) (L : Nat → Int) (d : Int) (hd : 0 ≤ d ∧ d ≤ 1048576) (hcn : c.n ≤ 4096) (hL : ∀ k, k ≤ 16384 → -536870912 ≤ L k ∧ L k ≤ 536870912) (hinj : ∀ j k, j < c.n → k < c.n → c.e j = c.e k → j = k) : ∀ (m i : Nat), i + m = c.n → ∀ w, Nds c s L d i w →
    Calls Try.prog 31 #[.pointer none, ex (c.T i) (c.b i) (lc c L d i), vis] w fun e w' => e = .returned (ex (c.T i) (c.b i) (lc c L (d + 1048576) i)) ∧ Nds c s L (d + 1048576) i w' ∧ Touch (fun k => ∃ j, i ≤ j ∧ j < c.n ∧ k = c.e j) w w' := by
  intro m
  induction m with
  | zero =>
    intro i hi w hN
    have hn : ¬ i < c.n := by omega
    have e1 : c.T i = 42 := if_neg hn
    have e2 : c.b i = c.o c.n := if_neg hn
    have e3 : ∀ d, lc c L d i = L (3 * c.n) + d := fun d => if_neg hn
    rw [e1, e2, e3, e3]
    have hl := hL (3 * c.n) (by omega)
    refine (leaf31 w (c.o c.n) (L (3 * c.n) + d) (by omega)).mono ?_
    rintro e w' ⟨rfl, hb⟩
    exact ⟨by rw [Int.add_assoc], fun j h1 h2 => by omega, Touch.of_below hb _⟩
  | succ m ih =>
    intro i hi w hN
    have hn : i < c.n := by omega
    have e1 : c.T i = 78 := if_pos hn
    have e2 : c.b i = c.e i := if_pos hn
    have e3 : ∀ d, lc c L d i = L (3 * i + 2) := fun d => if_pos hn
    rw [e1, e2, e3, e3]
    have hb := hN i (Nat.le_refl _) hn
    have hlt := lt_of_block hb
    have hN1 : Nds c s L d (i + 1) w := fun j h1 h2 => hN j (by omega) h2
    have hlts : ∀ j, i + 1 ≤ j → j < c.n → c.e j < w.heap.size := fun j h1 h2 => lt_of_block (hN1 j h1 h2)
    have hne : ∀ j, i + 1 ≤ j → j < c.n → c.e j ≠ c.e i := fun j h1 h2 h => by have := hinj j i h2 hn h; omega
    have hst : ∀ d, ∀ u u', Nds c s L d (i + 1) u → Touch (fun k => k = c.e i ∨ w.heap.size ≤ k) u u' → Nds c s L d (i + 1) u' := fun d u u' h ht => h.keep ht fun j h1 h2 hF => by
      rcases hF with hF | hF
      · exact hne j h1 h2 hF
      · have := hlts j h1 h2; omega
    have hF1 : ¬ ∃ j, i + 1 ≤ j ∧ j < c.n ∧ c.e i = c.e j := by
      rintro ⟨j, h1, h2, h3⟩
      exact hne j h1 h2 h3.symm
    have hF2 : ∀ k, (∃ j, i + 1 ≤ j ∧ j < c.n ∧ k = c.e j) → k < w.heap.size := by
      rintro k ⟨j, h1, h2, rfl⟩
      exact hlts j h1 h2
    have hl := hL (3 * i + 1) (by omega)
    have hrec := ih (i + 1) (by omega)
    have leafs : ∀ d', ∀ u, Nds c s L d' (i + 1) u → Calls Try.prog 31 #[.pointer none, ex 42 (c.o i) (L (3 * i + 1) + d), vis] u fun e w' => e = .returned (ex 42 (c.o i) (L (3 * i + 1) + (d + 1048576))) ∧ Nds c s L d' (i + 1) w' ∧ Touch (fun k => ∃ j, i + 1 ≤ j ∧ j < c.n ∧ k = c.e j) u w' := by
      intro d' u hu
      refine (leaf31 u (c.o i) (L (3 * i + 1) + d) (by omega)).mono ?_
      rintro e w' ⟨rfl, hb⟩
      exact ⟨by rw [Int.add_assoc], hu.keep (Touch.of_below hb (fun _ => False)) (fun _ _ _ h => h), Touch.of_below hb _⟩
    have fin : ∀ w', Nds c s L (d + 1048576) (i + 1) w' → w'.heap[c.e i]? = some (.cells (nde c s L (d + 1048576) i) 83 (0, 0)) → Nds c s L (d + 1048576) i w' := fun w' h1 h2 j h3 h4 => by
      by_cases e : j = i
      · subst e; exact h2
      · exact h1 j (by omega) h4
    have fin2 : ∀ w', Touch (fun k => k = c.e i ∨ ∃ j, i + 1 ≤ j ∧ j < c.n ∧ k = c.e j) w w' → Touch (fun k => ∃ j, i ≤ j ∧ j < c.n ∧ k = c.e j) w w' := fun w' h => h.mono fun k _ hk => by
      rcases hk with rfl | ⟨j, h1, h2, h3⟩
      · exact ⟨i, Nat.le_refl _, hn, rfl⟩
      · exact ⟨j, by omega, h2, h3⟩
    by_cases hs : s i = true
    · have n1 : ∀ d, nde c s L d i = #[.iface 79 (.pointer (some ⟨c.t i, 0, none⟩)), .int .i32 (L (3 * i)), .iface (c.T (i + 1)) (.pointer (some ⟨c.b (i + 1), 0, none⟩)), .int .i32 (lc c L d (i + 1)), .iface 42 (.pointer (some ⟨c.o i, 0, none⟩)), .int .i32 (L (3 * i + 1) + d)] := fun d => if_pos hs
      rw [n1] at hb
      refine (node31 w (c.e i) _ (L (3 * i + 2)) (L (3 * i)) _ _ _ _ _ (lc c L (d + 1048576) (i + 1)) _ (L (3 * i + 1) + (d + 1048576)) (Nds c s L d (i + 1)) (Nds c s L (d + 1048576) (i + 1)) (Nds c s L (d + 1048576) (i + 1)) _ hb hN1 (hst _) (hst _) (hst _) hF1 hF2 hrec (leafs _)).mono ?_
      rintro e w' ⟨rfl, h1, h2, h3⟩
      exact ⟨rfl, fin w' h1 (by rw [n1]; exact h2), fin2 w' h3⟩
    · have n1 : ∀ d, nde c s L d i = #[.iface 79 (.pointer (some ⟨c.t i, 0, none⟩)), .int .i32 (L (3 * i)), .iface 42 (.pointer (some ⟨c.o i, 0, none⟩)), .int .i32 (L (3 * i + 1) + d), .iface (c.T (i + 1)) (.pointer (some ⟨c.b (i + 1), 0, none⟩)), .int .i32 (lc c L d (i + 1))] := fun d => if_neg hs
      rw [n1] at hb
      refine (node31 w (c.e i) _ (L (3 * i + 2)) (L (3 * i)) _ _ _ _ _ (L (3 * i + 1) + (d + 1048576)) _ (lc c L (d + 1048576) (i + 1)) (Nds c s L d (i + 1)) (Nds c s L d (i + 1)) (Nds c s L (d + 1048576) (i + 1)) _ hb hN1 (hst _) (hst _) (hst _) hF1 hF2 (leafs _) hrec).mono ?_
      rintro e w' ⟨rfl, h1, h2, h3⟩
      exact ⟨rfl, fin w' h1 (by rw [n1]; exact h2), fin2 w' h3⟩
/-- The same behind the door of the package. -/
theorem chain9 (c : Bl) (s : Nat → Bool) (L : Nat → Int) (d : Int) (hd : 0 ≤ d ∧ d ≤ 1048576) (hcn : c.n ≤ 4096) (hL : ∀ k, k ≤ 16384 → -536870912 ≤ L k ∧ L k ≤ 536870912) (hinj : ∀ j k, j < c.n → k < c.n → c.e j = c.e k → j = k) (w : World) (hN : Nds c s L d 0 w) :
    Calls Try.prog 9 #[ex (c.T 0) (c.b 0) (lc c L d 0), vis] w fun e w' => e = .returned (ex (c.T 0) (c.b 0) (lc c L (d + 1048576) 0)) ∧ Nds c s L (d + 1048576) 0 w' ∧ Touch (fun k => ∃ j, 0 ≤ j ∧ j < c.n ∧ k = c.e j) w w' := by
  have HC := Lib.hid (chain31 c s L d hd hcn hL hinj c.n 0 (by omega))
  have HN := Lib.hid hN
  have hlts : ∀ j, j < c.n → c.e j < w.heap.size := fun j h2 => lt_of_block (hN j (by omega) h2)
  clear hN
  generalize c.T 0 = T at *
  generalize c.b 0 = b at *
  generalize lc c L d 0 = l at *
  generalize lc c L (d + 1048576) 0 = l' at *
  have hw1 : Below w.heap.size w ((w.alloc (Obj.cells #[Value.iface T (Value.pointer (some { block := b, off := 0 })), Value.int IntKind.i32 l] 30)).alloc (Obj.cells #[Value.nilIface, Value.int IntKind.i32 0] 30)) := ((Below.refl _ _).alloc (Nat.le_refl _) _).alloc (by simp) _
  have hx2 : ((w.alloc (Obj.cells #[Value.iface T (Value.pointer (some { block := b, off := 0 })), Value.int IntKind.i32 l] 30)).alloc (Obj.cells #[Value.nilIface, Value.int IntKind.i32 0] 30)).heap[w.heap.size + 1]? = some (.cells #[Value.nilIface, Value.int IntKind.i32 0] 30 (0, 0)) := by
    have h := heap_alloc_new (w.alloc (Obj.cells #[Value.iface T (Value.pointer (some { block := b, off := 0 })), Value.int IntKind.i32 l] 30)) (Obj.cells #[Value.nilIface, Value.int IntKind.i32 0] 30)
    simpa using h
  have k0 : ((w.alloc (Obj.cells #[Value.iface T (Value.pointer (some { block := b, off := 0 })), Value.int IntKind.i32 l] 30)).alloc (Obj.cells #[Value.nilIface, Value.int IntKind.i32 0] 30)).cell? ⟨w.heap.size, 0, none⟩ = some (.iface T (.pointer (some ⟨b, 0, none⟩))) := by simp
  have k1 : ((w.alloc (Obj.cells #[Value.iface T (Value.pointer (some { block := b, off := 0 })), Value.int IntKind.i32 l] 30)).alloc (Obj.cells #[Value.nilIface, Value.int IntKind.i32 0] 30)).cell? ⟨w.heap.size, 1, none⟩ = some (.int .i32 l) := by simp
  go_enter Try.func9, Try.ntmps9
  go_upto_region 2 with (fail)
  generalize (w.alloc (Obj.cells #[Value.iface T (Value.pointer (some { block := b, off := 0 })), Value.int IntKind.i32 l] 30)).alloc (Obj.cells #[Value.nilIface, Value.int IntKind.i32 0] 30) = W1 at *
  have HX := Lib.hid hx2
  have HW := Lib.hid hw1
  have HN1 := Lib.hid (HN.out.keep (Touch.of_below hw1 (fun _ => False)) (fun _ _ _ h => h))
  clear hx2 hw1
  go_wp2_with (go_at_call 31; refine (HC.out _ HN1.out).mono ?_; rintro e w' ⟨rfl, hn', hb⟩; have x1 := (hb.block _ (lt_of_block HX.out) (by rintro ⟨j, h1, h2, h3⟩; have := hlts j h2; omega)).trans HX.out; have X1 := Lib.hid x1; have a0 : w'.cell? ⟨w.heap.size + 1, 0, none⟩ = some .nilIface := (cell_of_row _ _ 0 _ _ _ x1).trans rfl; have b0 := frozen_of_row _ _ 0 _ _ x1; have x2 := heap_setCell_same _ _ 0 _ _ (Value.iface T (Value.pointer (some { block := b, off := 0 }))) x1; have a1 : (w'.setCell ⟨w.heap.size + 1, 0, none⟩ (Value.iface T (Value.pointer (some { block := b, off := 0 })))).cell? ⟨w.heap.size + 1, 1, none⟩ = some (.int .i32 0) := (cell_of_row _ _ 1 _ _ _ x2).trans rfl; have b1 := frozen_of_row _ _ 1 _ _ x2; have x3 := heap_setCell_same _ _ 1 _ _ (.int .i32 l') x2; have X3 := Lib.hid x3; have HB := Lib.hid hb; have HN2 := Lib.hid hn'; clear x1 x2 x3 hb hn')
  have x3 := X3.out
  have r0 := (cell_of_row _ _ 0 _ _ _ x3)
  have r1 := (cell_of_row _ _ 1 _ _ _ x3)
  refine bodyPost_ret (v := ex T b l') (by simp [results, Try.results9, go_sem, r0, r1]) rfl ⟨rfl, ?_, ?_⟩
  · refine HN2.out.keep (((Touch.refl (fun k => k = w.heap.size + 1) _).setCell _ (fun _ => rfl) _).setCell _ (fun _ => rfl) _) fun j h1 h2 h => ?_
    have := hlts j h2
    omega
  · have h1 : Touch (fun k => ∃ j, 0 ≤ j ∧ j < c.n ∧ k = c.e j) w w' := (Touch.of_below HW.out _).trans HB.out
    exact (h1.setCell _ (fun h => absurd h (by show ¬ (w.heap.size + 1 < w.heap.size); omega)) _).setCell _ (fun h => absurd h (by show ¬ (w.heap.size + 1 < w.heap.size); omega)) _
end Go.Proofs.Ythhlioepgfjknaa.ch
