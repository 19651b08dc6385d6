/-
  A parser that counts uses: its state.
-/
import Derived.Test.YtomgcoggplaklaaMk
import Derived.OpenShut
import Derived.Lib.Hide
import Derived.WalkLawsBesides
import Derived.Deep.OwnRows
import Derived.Laws.Rows
import Derived.WalkSpells
import Derived.Laws.Tables
import Derived.WalkSmall
import Derived.Outline
import Derived.BigQuiet
import Derived.Deep.RegionLaw
import Derived.Deep.RegionWith
namespace Go.Proofs.Ytomgcoggplaklaa.ch
open Go.ChangeShapes Go.WideShapes Go.ChangeAt Go.RowKit Go.Deep Go.Proofs.Ytomgcoggplaklaa.mk
set_option linter.unusedVariables false
set_option linter.unusedSimpArgs false
/-- But for the blocks F, what was there is as it was. -/
structure Touch (F : Nat → Prop) (w w' : World) : Prop where
  os : w'.os = w.os
  tape : w'.tape = w.tape
  output : w'.output = w.output
  size : w.heap.size ≤ w'.heap.size
  block : ∀ k, k < w.heap.size → ¬ F k → w'.heap[k]? = w.heap[k]?
theorem Touch.refl (F : Nat → Prop) (w : World) : Touch F w w := ⟨rfl, rfl, rfl, Nat.le_refl _, fun _ _ _ => rfl⟩
theorem Touch.trans {F : Nat → Prop} {a b c : World} (h : Touch F a b) (k : Touch F b c) : Touch F a c :=
  ⟨k.os.trans h.os, k.tape.trans h.tape, k.output.trans h.output, Nat.le_trans h.size k.size, fun i hi hn => (k.block i (Nat.lt_of_lt_of_le hi h.size) hn).trans (h.block i hi hn)⟩
theorem Touch.mono {F G : Nat → Prop} {w w' : World} (h : Touch F w w') (e : ∀ k, k < w.heap.size → F k → G k) : Touch G w w' := ⟨h.os, h.tape, h.output, h.size, fun k hk hn => h.block k hk fun f => hn (e k hk f)⟩
theorem Touch.drew {F : Nat → Prop} {a w : World} (h : Touch F a w) : Touch F a w.drew := ⟨h.os, h.tape, h.output, h.size, h.block⟩
theorem Touch.alloc {F : Nat → Prop} {a w : World} (h : Touch F a w) (o : Obj) : Touch F a (w.alloc o) :=
  h.trans ⟨rfl, rfl, rfl, by simp, fun k hk _ => Below.heap_alloc _ _ _ hk⟩
theorem Touch.setCell {F : Nat → Prop} {a w : World} (h : Touch F a w) (p : Addr) (hp : p.block < a.heap.size → F p.block) (u : Value) : Touch F a (w.setCell p u) :=
  ⟨h.os, h.tape, h.output, by rw [show (w.setCell p u).heap.size = w.heap.size by simp [World.setCell]]; exact h.size, fun k hk hn => (Below.heap_setCell _ _ _ _ (fun e => hn (by rw [e]; exact hp (by rw [← e]; exact hk)))).trans (h.block k hk hn)⟩
theorem Touch.grown {F : Nat → Prop} {a w w' : World} {row : Option Nat} (h : Touch F a w) (hg : w.grownBy w' row) (hr : ∀ k, row = some k → k < a.heap.size → F k) : Touch F a w' :=
  ⟨hg.os.trans h.os, hg.tape.trans h.tape, hg.output.trans h.output, Nat.le_trans h.size hg.size, fun k hk hn => (hg.block k (Nat.lt_of_lt_of_le hk h.size) (fun e => hn (hr k e.symm hk))).trans (h.block k hk hn)⟩
theorem Touch.below {F : Nat → Prop} {w w' : World} (h : Touch F w w') {B : Nat} (hB : B ≤ w.heap.size) (hF : ∀ k, F k → B ≤ k) : Below B w w' :=
  ⟨h.os, h.tape, h.output, h.size, fun k hk => h.block k (by omega) (fun f => by have := hF k f; omega)⟩
theorem Touch.of_below {w w' : World} (h : Below w.heap.size w w') (F : Nat → Prop) : Touch F w w' := ⟨h.os, h.tape, h.output, h.size, fun k hk _ => h.block k hk⟩
theorem Touch.then {F : Nat → Prop} {a w w' : World} (h : Touch F a w) (hb : Below w.heap.size w w') : Touch F a w' := ⟨hb.os.trans h.os, hb.tape.trans h.tape, hb.output.trans h.output, Nat.le_trans h.size hb.size, fun k hk hn => (hb.block k (Nat.lt_of_lt_of_le hk h.size)).trans (h.block k hk hn)⟩
theorem onlyB_touch {b : Nat} {w w' : World} (h : OnlyB b w w') : Touch (fun j => j = b) w w' := ⟨h.os, h.tape, h.output, by rw [h.size]; exact Nat.le_refl _, fun k _ hn => h.block k hn⟩
/-- A slice of n elements, V i at place i; of an empty one nothing is said. -/
def Row (w : World) (a : Option Addr) (n : Nat) (V : Nat → Value) : Prop := 0 < n → ∃ b off, a = some ⟨b, off, none⟩ ∧ ∀ i, i < n → w.cell? ⟨b, off + i, none⟩ = some (V i)
theorem Row.below {w w' : World} {a : Option Addr} {n : Nat} {V : Nat → Value} (h : Row w a n V) (hb : Below w.heap.size w w') : Row w' a n V := by
  intro h0
  obtain ⟨b, off, rfl, hc⟩ := h h0
  refine ⟨b, off, rfl, fun i hi => ?_⟩
  have h1 := hc i hi
  exact (hb.cell (p := ⟨b, off + i, none⟩) (block_lt_of_cell h1)).trans h1
theorem Row.of_cells {w : World} {a : Addr} {n m : Nat} {V : Nat → Value} (hn : n ≤ m) (h : ∀ i, i < m → w.cell? (a.add i) = some (V i)) : Row w (some a) n V := by
  intro h0
  obtain ⟨b, off, spot⟩ := a
  have hspot : spot = none := by simpa [Addr.add] using World.cell?_spot (h 0 (by omega))
  subst hspot
  exact ⟨b, off, rfl, fun j hj => by rw [← Go.WideShapes.add_plain]; exact h j (by omega)⟩
theorem wf_zero (k : IntKind) : (Lit.int k 0).wf = true := by cases k <;> decide
/-- What a walk is told of a slice of integers that came in. -/
def IsInts (k : IntKind) (w : World) (a : Option Addr) (len cap : Nat) (Z : Nat → Int) : Prop :=
  (a = none → len = 0 ∧ cap = 0) ∧ len ≤ maxLen ∧ Row w a len (fun i => .int k (Z i)) ∧ ∀ i, (Lit.int k (Z i)).wf = true
theorem IsInts.nil (k : IntKind) (w : World) : IsInts k w none 0 0 (fun _ => 0) := ⟨fun _ => ⟨rfl, rfl⟩, by unfold maxLen; omega, fun h => by omega, fun i => wf_zero k⟩
theorem IsInts.mk {k : IntKind} {w : World} {a : Addr} {len cap : Nat} {zs : List Int} (hl : len ≤ cap) (hm : cap ≤ maxLen) (hz : zs.length = cap)
    (h : ∀ i, i < zs.length → w.cell? (a.add i) = some (.int k (zs.getD i 0))) (hwz : ∀ n ∈ zs, (Lit.int k n).wf = true) : IsInts k w (some a) len cap (fun i => zs.getD i 0) := by
  refine ⟨by simp, by omega, Row.of_cells (V := fun i => .int k (zs.getD i 0)) (by omega) h, fun i => ?_⟩
  show (Lit.int k (zs.getD i 0)).wf = true
  rw [List.getD_eq_getElem?_getD]
  cases e : zs[i]? with
  | none => exact wf_zero k
  | some s => exact hwz s (List.mem_of_getElem? e)
@[go_sem] theorem as45_189_yes (v : Value) (w : World) : (Instr.typeAssert (.iface 189 v) 45 189 true).run Try.prog w = .ok (.tuple #[v, .bool true]) w := by kernel_rfl
@[go_sem] theorem as45_189_nil (w : World) : (Instr.typeAssert .nilIface 45 189 true).run Try.prog w = .ok (.tuple #[.pointer none, .bool false]) w := by kernel_rfl
theorem as45_189_zero (w : World) : (do pure (Value.tuple #[← zeroValue 189, .bool false]) : Sem Value).run Try.prog w = .ok (.tuple #[.pointer none, .bool false]) w := by kernel_rfl
@[go_sem] theorem as45_189_no (u : TypeId) (v : Value) (w : World) (h : u ≠ 189) : (Instr.typeAssert (.iface u v) 45 189 true).run Try.prog w = .ok (.tuple #[.pointer none, .bool false]) w := by
  have e : (Instr.typeAssert (.iface u v) 45 189 true).run Try.prog w = (if u = 189 then (pure (Value.tuple #[v, .bool true]) : Sem Value) else (do pure (Value.tuple #[← zeroValue 189, .bool false]))).run Try.prog w := by kernel_rfl
  rw [e, if_neg h]
  exact as45_189_zero w
@[go_sem] theorem as45_195_yes (v : Value) (w : World) : (Instr.typeAssert (.iface 195 v) 45 195 true).run Try.prog w = .ok (.tuple #[v, .bool true]) w := by kernel_rfl
@[go_sem] theorem as45_195_nil (w : World) : (Instr.typeAssert .nilIface 45 195 true).run Try.prog w = .ok (.tuple #[.pointer none, .bool false]) w := by kernel_rfl
theorem as45_195_zero (w : World) : (do pure (Value.tuple #[← zeroValue 195, .bool false]) : Sem Value).run Try.prog w = .ok (.tuple #[.pointer none, .bool false]) w := by kernel_rfl
@[go_sem] theorem as45_195_no (u : TypeId) (v : Value) (w : World) (h : u ≠ 195) : (Instr.typeAssert (.iface u v) 45 195 true).run Try.prog w = .ok (.tuple #[.pointer none, .bool false]) w := by
  have e : (Instr.typeAssert (.iface u v) 45 195 true).run Try.prog w = (if u = 195 then (pure (Value.tuple #[v, .bool true]) : Sem Value) else (do pure (Value.tuple #[← zeroValue 195, .bool false]))).run Try.prog w := by kernel_rfl
  rw [e, if_neg h]
  exact as45_195_zero w
@[go_sem] theorem as45_199_yes (v : Value) (w : World) : (Instr.typeAssert (.iface 199 v) 45 199 true).run Try.prog w = .ok (.tuple #[v, .bool true]) w := by kernel_rfl
@[go_sem] theorem as45_199_nil (w : World) : (Instr.typeAssert .nilIface 45 199 true).run Try.prog w = .ok (.tuple #[.pointer none, .bool false]) w := by kernel_rfl
theorem as45_199_zero (w : World) : (do pure (Value.tuple #[← zeroValue 199, .bool false]) : Sem Value).run Try.prog w = .ok (.tuple #[.pointer none, .bool false]) w := by kernel_rfl
@[go_sem] theorem as45_199_no (u : TypeId) (v : Value) (w : World) (h : u ≠ 199) : (Instr.typeAssert (.iface u v) 45 199 true).run Try.prog w = .ok (.tuple #[.pointer none, .bool false]) w := by
  have e : (Instr.typeAssert (.iface u v) 45 199 true).run Try.prog w = (if u = 199 then (pure (Value.tuple #[v, .bool true]) : Sem Value) else (do pure (Value.tuple #[← zeroValue 199, .bool false]))).run Try.prog w := by kernel_rfl
  rw [e, if_neg h]
  exact as45_199_zero w
@[go_sem] theorem as45_200_yes (v : Value) (w : World) : (Instr.typeAssert (.iface 200 v) 45 200 true).run Try.prog w = .ok (.tuple #[v, .bool true]) w := by kernel_rfl
@[go_sem] theorem as45_200_nil (w : World) : (Instr.typeAssert .nilIface 45 200 true).run Try.prog w = .ok (.tuple #[.pointer none, .bool false]) w := by kernel_rfl
theorem as45_200_zero (w : World) : (do pure (Value.tuple #[← zeroValue 200, .bool false]) : Sem Value).run Try.prog w = .ok (.tuple #[.pointer none, .bool false]) w := by kernel_rfl
@[go_sem] theorem as45_200_no (u : TypeId) (v : Value) (w : World) (h : u ≠ 200) : (Instr.typeAssert (.iface u v) 45 200 true).run Try.prog w = .ok (.tuple #[.pointer none, .bool false]) w := by
  have e : (Instr.typeAssert (.iface u v) 45 200 true).run Try.prog w = (if u = 200 then (pure (Value.tuple #[v, .bool true]) : Sem Value) else (do pure (Value.tuple #[← zeroValue 200, .bool false]))).run Try.prog w := by kernel_rfl
  rw [e, if_neg h]
  exact as45_200_zero w

/-- The parser at block g: its symbols at SB with use counts U; its part at p.1, with the map of uses at p.2. -/
structure Ps (w : World) (g SB n : Nat) (dead : Bool) (pt : Option (Nat × Nat)) (U : Nat → Int) (m : Nat) (M : Value → Option Value) : Prop where
  c350 : w.cell? ⟨g, 350, none⟩ = some (.bool dead)
  c105 : w.cell? ⟨g, 105, none⟩ = some (.pointer (pt.map fun p => ⟨p.1, 0, none⟩))
  c106 : w.cell? ⟨g, 106, none⟩ = some (.slice (some ⟨SB, 0, none⟩) n n)
  col : ∀ i, i < n → w.cell? ⟨SB, i * 10 + 4, none⟩ = some (.int .u32 (U i))
  frz : ∀ o, w.frozen? ⟨SB, o, none⟩ = false
  mp : ∀ p, pt = some p → w.cell? ⟨p.1, 4, none⟩ = some (.map (some p.2)) ∧ MapIs w p.2 RefKey m M ∧ p.2 ≠ g ∧ p.2 ≠ SB ∧ p.1 ≠ SB ∧ p.2 ≠ p.1
  ne : g ≠ SB
  lt : SB < w.heap.size
section
variable {w w' : World} {g SB n : Nat} {dead : Bool} {pt : Option (Nat × Nat)} {U : Nat → Int} {m : Nat} {M : Value → Option Value}
theorem Ps.ltg (h : Ps w g SB n dead pt U m M) : g < w.heap.size := block_lt_of_cell h.c350
theorem Ps.keep (h : Ps w g SB n dead pt U m M) (hs : w.heap.size ≤ w'.heap.size) (e : ∀ b, b < w.heap.size → (b = g ∨ b = SB ∨ ∃ p, pt = some p ∧ (b = p.1 ∨ b = p.2)) → w'.heap[b]? = w.heap[b]?) : Ps w' g SB n dead pt U m M := by
  have hg := h.ltg
  have hl := h.lt
  have c : ∀ j, w'.cell? ⟨g, j, none⟩ = w.cell? ⟨g, j, none⟩ := fun j => World.cell?_of_block (a := ⟨g, j, none⟩) (e g hg (.inl rfl))
  have cs : ∀ j, w'.cell? ⟨SB, j, none⟩ = w.cell? ⟨SB, j, none⟩ := fun j => World.cell?_of_block (a := ⟨SB, j, none⟩) (e SB hl (.inr (.inl rfl)))
  have fs : ∀ j, w'.frozen? ⟨SB, j, none⟩ = w.frozen? ⟨SB, j, none⟩ := fun j => World.frozen?_of_block (a := ⟨SB, j, none⟩) (e SB hl (.inr (.inl rfl)))
  refine ⟨(c _).trans h.c350, (c _).trans h.c105, (c _).trans h.c106, fun i hi => (cs _).trans (h.col i hi), fun o => (fs o).trans (h.frz o), fun p hp => ?_, h.ne, Nat.lt_of_lt_of_le hl hs⟩
  obtain ⟨h1, h2, h3⟩ := h.mp p hp
  exact ⟨(World.cell?_of_block (a := ⟨p.1, 4, none⟩) (e p.1 (block_lt_of_cell h1) (.inr (.inr ⟨p, hp, .inl rfl⟩)))).trans h1, h2.of_block (e p.2 h2.lt (.inr (.inr ⟨p, hp, .inr rfl⟩))), h3⟩
theorem Ps.below (h : Ps w g SB n dead pt U m M) (hb : Below w.heap.size w w') : Ps w' g SB n dead pt U m M := h.keep hb.size (fun b hlt _ => hb.block b hlt)
def updI (f : Nat → Int) (p : Nat) (v : Int) (i : Nat) : Int := if i = p then v else f i
theorem Ps.setU (h : Ps w g SB n dead pt U m M) {i : Nat} (hi : i < n) (x : Int) : Ps (w.setCell ⟨SB, i * 10 + 4, none⟩ (.int .u32 x)) g SB n dead pt (updI U i x) m M := by
  have bl : ∀ k, k ≠ SB → (w.setCell ⟨SB, i * 10 + 4, none⟩ (.int .u32 x)).heap[k]? = w.heap[k]? := fun k hk => Below.heap_setCell _ _ _ _ hk
  have hne := h.ne
  have c : ∀ j, (w.setCell ⟨SB, i * 10 + 4, none⟩ (.int .u32 x)).cell? ⟨g, j, none⟩ = w.cell? ⟨g, j, none⟩ := fun j => World.cell?_of_block (a := ⟨g, j, none⟩) (bl g hne)
  refine ⟨(c _).trans h.c350, (c _).trans h.c105, (c _).trans h.c106, fun j hj => ?_, fun o => (World.frozen?_setCell _ _ _ _).trans (h.frz o), fun p hp => ?_, hne, by simpa [World.setCell] using h.lt⟩
  · unfold updI
    by_cases e : j = i
    · subst e; rw [if_pos rfl]; exact World.cell?_setCell_same _ _ _ (h.col j hj)
    · rw [if_neg e]; exact (World.cell?_setCell_other _ _ _ _ (fun e' => e (by have := congrArg Addr.off e'; simp at this; omega))).trans (h.col j hj)
  · obtain ⟨h1, h2, h3, h4, h5, h6⟩ := h.mp p hp
    exact ⟨(World.cell?_of_block (a := ⟨p.1, 4, none⟩) (bl p.1 h5)).trans h1, h2.of_block (bl p.2 h4), h3, h4, h5, h6⟩
theorem Ps.setM {PB MB m' : Nat} {M' : Value → Option Value} (h : Ps w g SB n dead (some (PB, MB)) U m M) (ho : OnlyB MB w w') (hm : MapIs w' MB RefKey m' M') : Ps w' g SB n dead (some (PB, MB)) U m' M' := by
  obtain ⟨h1, h2, h3, h4, h5, h6⟩ := h.mp _ rfl
  simp only at h1 h2 h3 h4 h5 h6
  have bl : ∀ k, k ≠ MB → w'.heap[k]? = w.heap[k]? := fun k hk => ho.block k hk
  have c : ∀ j, w'.cell? ⟨g, j, none⟩ = w.cell? ⟨g, j, none⟩ := fun j => World.cell?_of_block (a := ⟨g, j, none⟩) (bl g (fun e => h3 e.symm))
  refine ⟨(c _).trans h.c350, (c _).trans h.c105, (c _).trans h.c106, fun j hj => (World.cell?_of_block (a := ⟨SB, j * 10 + 4, none⟩) (bl SB (fun e => h4 e.symm))).trans (h.col j hj), fun o => (World.frozen?_of_block (a := ⟨SB, o, none⟩) (bl SB (fun e => h4 e.symm))).trans (h.frz o), fun p hp => ?_, h.ne, by rw [ho.size]; exact h.lt⟩
  cases hp
  exact ⟨(World.cell?_of_block (a := ⟨PB, 4, none⟩) (bl PB (fun e => h6 e.symm))).trans h1, hm, h3, h4, h5, h6⟩
end
theorem zero33 (w : World) : (zeroValue 33).run Try.prog w = .ok (.agg #[.int .u32 0]) w := by kernel_rfl
def ref (s : Int) (i : Nat) : Value := .agg #[.int .u32 s, .int .u32 i]
theorem ref_key (s : Int) (i : Nat) : RefKey (ref s i) := ⟨s, i, rfl⟩
/-- What the map holds: counts. -/
def Counts (M : Value → Option Value) : Prop := ∀ k v, M k = some v → ∃ x : Int, v = .agg #[.int .u32 x]
def cntOf (M : Value → Option Value) (k : Value) : Int := match M k with | some (.agg #[.int .u32 x]) => x | _ => 0
theorem cntOf_get {M : Value → Option Value} (h : Counts M) (k : Value) : (M k).getD (.agg #[.int .u32 0]) = .agg #[.int .u32 (cntOf M k)] := by
  unfold cntOf
  cases e : M k with
  | none => rfl
  | some v => obtain ⟨x, rfl⟩ := h k v e; rfl
end Go.Proofs.Ytomgcoggplaklaa.ch
