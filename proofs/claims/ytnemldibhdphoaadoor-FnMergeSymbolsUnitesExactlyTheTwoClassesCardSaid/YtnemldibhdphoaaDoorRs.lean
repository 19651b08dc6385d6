/-
  Link tables: the model of roots, its state.
-/
import Derived.Test.YtnemldibhdphoaaDoorRows
import Derived.Test.YtnemldibhdphoaaDoorLk
import Derived.WalkKit
import Derived.ProofKit
import Derived.Below
import Derived.Carry
import Derived.OneCell
import Derived.OpenShut
import Derived.Lib.Hide
import Derived.WalkLawsBesides
import Derived.Deep.OwnRows
import Derived.Laws.Rows
import Derived.WalkSpells
import Derived.Laws.Tables
import Derived.WalkSmall
import Derived.Outline
import Derived.BigQuiet
import Derived.Deep.RegionLaw
import Derived.Deep.AppendLies
import Derived.Deep.RegionWith
namespace Go.Proofs.YtnemldibhdphoaaDoor.lk
open Go.ChangeShapes Go.WideShapes Go.ChangeAt Go.RowKit Go.Deep
set_option linter.unusedVariables false
set_option linter.unusedSimpArgs false
/-- But for the blocks F, what was there is as it was. -/
structure Touch (F : Nat → Prop) (w w' : World) : Prop where
  os : w'.os = w.os
  tape : w'.tape = w.tape
  output : w'.output = w.output
  size : w.heap.size ≤ w'.heap.size
  block : ∀ k, k < w.heap.size → ¬ F k → w'.heap[k]? = w.heap[k]?
theorem Touch.refl (F : Nat → Prop) (w : World) : Touch F w w := ⟨rfl, rfl, rfl, Nat.le_refl _, fun _ _ _ => rfl⟩
theorem Touch.trans {F : Nat → Prop} {a b c : World} (h : Touch F a b) (k : Touch F b c) : Touch F a c :=
  ⟨k.os.trans h.os, k.tape.trans h.tape, k.output.trans h.output, Nat.le_trans h.size k.size, fun i hi hn => (k.block i (Nat.lt_of_lt_of_le hi h.size) hn).trans (h.block i hi hn)⟩
theorem Touch.mono {F G : Nat → Prop} {w w' : World} (h : Touch F w w') (e : ∀ k, k < w.heap.size → F k → G k) : Touch G w w' := ⟨h.os, h.tape, h.output, h.size, fun k hk hn => h.block k hk fun f => hn (e k hk f)⟩
theorem Touch.drew {F : Nat → Prop} {a w : World} (h : Touch F a w) : Touch F a w.drew := ⟨h.os, h.tape, h.output, h.size, h.block⟩
theorem Touch.alloc {F : Nat → Prop} {a w : World} (h : Touch F a w) (o : Obj) : Touch F a (w.alloc o) :=
  h.trans ⟨rfl, rfl, rfl, by simp, fun k hk _ => Below.heap_alloc _ _ _ hk⟩
theorem Touch.setCell {F : Nat → Prop} {a w : World} (h : Touch F a w) (p : Addr) (hp : p.block < a.heap.size → F p.block) (u : Value) : Touch F a (w.setCell p u) :=
  ⟨h.os, h.tape, h.output, by rw [show (w.setCell p u).heap.size = w.heap.size by simp [World.setCell]]; exact h.size, fun k hk hn => (Below.heap_setCell _ _ _ _ (fun e => hn (by rw [e]; exact hp (by rw [← e]; exact hk)))).trans (h.block k hk hn)⟩
theorem Touch.grown {F : Nat → Prop} {a w w' : World} {row : Option Nat} (h : Touch F a w) (hg : w.grownBy w' row) (hr : ∀ k, row = some k → k < a.heap.size → F k) : Touch F a w' :=
  ⟨hg.os.trans h.os, hg.tape.trans h.tape, hg.output.trans h.output, Nat.le_trans h.size hg.size, fun k hk hn => (hg.block k (Nat.lt_of_lt_of_le hk h.size) (fun e => hn (hr k e.symm hk))).trans (h.block k hk hn)⟩
theorem Touch.below {F : Nat → Prop} {w w' : World} (h : Touch F w w') {B : Nat} (hB : B ≤ w.heap.size) (hF : ∀ k, F k → B ≤ k) : Below B w w' :=
  ⟨h.os, h.tape, h.output, h.size, fun k hk => h.block k (by omega) (fun f => by have := hF k f; omega)⟩
theorem Touch.of_below {w w' : World} (h : Below w.heap.size w w') (F : Nat → Prop) : Touch F w w' := ⟨h.os, h.tape, h.output, h.size, fun k hk _ => h.block k hk⟩
theorem Touch.then {F : Nat → Prop} {a w w' : World} (h : Touch F a w) (hb : Below w.heap.size w w') : Touch F a w' := ⟨hb.os.trans h.os, hb.tape.trans h.tape, hb.output.trans h.output, Nat.le_trans h.size hb.size, fun k hk hn => (hb.block k (Nat.lt_of_lt_of_le hk h.size)).trans (h.block k hk hn)⟩
/-- A slice of n elements, V i at place i; of an empty one nothing is said. -/
def Row (w : World) (a : Option Addr) (n : Nat) (V : Nat → Value) : Prop := 0 < n → ∃ b off, a = some ⟨b, off, none⟩ ∧ ∀ i, i < n → w.cell? ⟨b, off + i, none⟩ = some (V i)
theorem Row.below {w w' : World} {a : Option Addr} {n : Nat} {V : Nat → Value} (h : Row w a n V) (hb : Below w.heap.size w w') : Row w' a n V := by
  intro h0
  obtain ⟨b, off, rfl, hc⟩ := h h0
  refine ⟨b, off, rfl, fun i hi => ?_⟩
  have h1 := hc i hi
  exact (hb.cell (p := ⟨b, off + i, none⟩) (block_lt_of_cell h1)).trans h1
theorem Row.of_cells {w : World} {a : Addr} {n m : Nat} {V : Nat → Value} (hn : n ≤ m) (h : ∀ i, i < m → w.cell? (a.add i) = some (V i)) : Row w (some a) n V := by
  intro h0
  obtain ⟨b, off, spot⟩ := a
  have hspot : spot = none := by simpa [Addr.add] using World.cell?_spot (h 0 (by omega))
  subst hspot
  exact ⟨b, off, rfl, fun j hj => by rw [← Go.WideShapes.add_plain]; exact h j (by omega)⟩
theorem wf_zero (k : IntKind) : (Lit.int k 0).wf = true := by cases k <;> decide
/-- What a walk is told of a slice of integers that came in. -/
def IsInts (k : IntKind) (w : World) (a : Option Addr) (len cap : Nat) (Z : Nat → Int) : Prop :=
  (a = none → len = 0 ∧ cap = 0) ∧ len ≤ maxLen ∧ Row w a len (fun i => .int k (Z i)) ∧ ∀ i, (Lit.int k (Z i)).wf = true
theorem IsInts.nil (k : IntKind) (w : World) : IsInts k w none 0 0 (fun _ => 0) := ⟨fun _ => ⟨rfl, rfl⟩, by unfold maxLen; omega, fun h => by omega, fun i => wf_zero k⟩
theorem IsInts.mk {k : IntKind} {w : World} {a : Addr} {len cap : Nat} {zs : List Int} (hl : len ≤ cap) (hm : cap ≤ maxLen) (hz : zs.length = cap)
    (h : ∀ i, i < zs.length → w.cell? (a.add i) = some (.int k (zs.getD i 0))) (hwz : ∀ n ∈ zs, (Lit.int k n).wf = true) : IsInts k w (some a) len cap (fun i => zs.getD i 0) := by
  refine ⟨by simp, by omega, Row.of_cells (V := fun i => .int k (zs.getD i 0)) (by omega) h, fun i => ?_⟩
  show (Lit.int k (zs.getD i 0)).wf = true
  rw [List.getD_eq_getElem?_getD]
  cases e : zs[i]? with
  | none => exact wf_zero k
  | some s => exact hwz s (List.mem_of_getElem? e)

/-- An append whose run is known. -/
theorem wpList_append_run {P : Program} {w w' : World} {ops : Array Oper} {rest : List Oper} {o : Oper} {a : Act} {Q : Exit → Act → World → Prop} (hgd : o.guard = none) (s x : Operand) (t : TypeId)
    (ho : o.op = .call { callee := .builtin .append, args := #[s, x], argTypes := #[t, t] }) {v1 v2 v' : Value} (hs : a.eval s = v1) (hx : a.eval x = v2)
    (hr : (Builtin.append_ #[t, t] o.type #[v1, v2]).run P w = .ok v' w') (h : wpList P ops Q rest (a.put o.dst v') w') : wpList P ops Q (o :: rest) a w := by
  refine wpList_plain hgd fun _ hK => ?_
  unfold Oper.wp execOp
  simp only [ho, resolve, invoke, builtin, Sem.run_bind, Sem.run_pure, Result.andThen_ok, List.map_toArray, List.map_cons, List.map_nil, hs, hx, hr]
  exact hK _ _ h
theorem heap_alloc_new (w : World) (o : Obj) : (w.alloc o).heap[w.heap.size]? = some o := blk_alloc_new _ _
theorem info2 : (Tryd.prog.info? 2).map (fun i => (i.zero, i.size, i.bytes)) = some (some (Value.int .i64 0), 1, 8) := by kernel_rfl
theorem info3 : (Tryd.prog.info? 3).map (fun i => (i.zero, i.size, i.bytes)) = some (some (Value.int .i64 0), 1, 8) := by kernel_rfl
theorem made26 (n : Nat) (hn : n ≤ 1048576) (w : World) : (Instr.makeSlice 26 (.int .i64 n) (.int .i64 n)).run Tryd.prog w = .ok (.slice (some ⟨w.heap.size, 0, none⟩) n n) (w.alloc (.cells (madeCells #[.int .i64 0] n) 2)) :=
  run_make_row' (P := Tryd.prog) 26 2 (Value.int .i64 0) 8 Tryd.underlying26 info2 rfl .i64 .i64 n (by omega) (by omega) w
theorem made38 (w : World) : (Instr.makeSlice 38 (.int .i64 0) (.int .i64 16)).run Tryd.prog w = .ok (.slice (some ⟨w.heap.size, 0, none⟩) 0 16) (w.alloc (.cells (madeCells #[.int .i64 0] 16) 3)) := by
  obtain ⟨i, hi, hz⟩ := Option.map_eq_some_iff.1 info3
  simp only [Prod.mk.injEq] at hz
  obtain ⟨h1, h2, h3⟩ := hz
  have hr := run_make (P := Tryd.prog) w 38 3 i _ Tryd.underlying38 hi h1 .i64 .i64 0 16 (by omega) (by omega) (by rw [h3]; omega) (by omega)
  simp only [h2, Nat.mul_one] at hr
  exact hr
/-- The links that a row of numbers says. -/
def lnk (L : Nat → Int) (i : Nat) : Option Nat := if L i < 0 then none else some (L i).toNat
def updI (f : Nat → Int) (p : Nat) (v : Int) (i : Nat) : Int := if i = p then v else f i
/-- What is known so far of the roots. -/
def Known (n : Nat) (l : Nat → Option Nat) (f : Nat → Int) : Prop := ∀ i, i < n → f i = -2 ∨ ∃ r : Nat, f i = r ∧ Rt l i r
theorem Known.upd {n : Nat} {l : Nat → Option Nat} {f : Nat → Int} (h : Known n l f) {p r : Nat} (hr : Rt l p r) : Known n l (updI f p r) := by
  intro i hi
  unfold updI
  by_cases e : i = p
  · subst e; rw [if_pos rfl]; exact .inr ⟨r, rfl, hr⟩
  · rw [if_neg e]; exact h i hi
theorem upd_known {f : Nat → Int} {p i : Nat} {r : Nat} (h : f i ≠ -2) : updI f p r i ≠ -2 := by
  unfold updI; split
  · omega
  · exact h
theorem upd_self {f : Nat → Int} {p : Nat} {r : Nat} : updI f p r p ≠ -2 := by unfold updI; rw [if_pos rfl]; omega
/-- The model's memory: its row of roots, its stack. -/
def Rs (w : World) (n : Nat) (f : Nat → Int) (S : List Nat) (m SB c : Nat) (wr : World) : Prop :=
  m = S.length ∧ wr.rowIs w.heap.size 2 n (fun i => .int .i64 (f i)) ∧ wr.ownsRow (w.heap.size + 1) 3 1 (.slice (some ⟨SB, 0, none⟩) m c) m (S.map fun s : Nat => Value.int .i64 (s : Int)) ∧ Below w.heap.size w wr
section
variable {w wr : World} {n m SB c : Nat} {f : Nat → Int} {S : List Nat}
theorem Rs.get (h : Rs w n f S m SB c wr) {p : Nat} (hp : p < n) : wr.cell? ⟨w.heap.size, p, none⟩ = some (.int .i64 (f p)) ∧ wr.frozen? ⟨w.heap.size, p, none⟩ = false := ⟨h.2.1.cell hp, h.2.1.frozen p⟩
theorem Rs.bel (h : Rs w n f S m SB c wr) : Below w.heap.size w wr := h.2.2.2
theorem Rs.top (h : Rs w n f S m SB c wr) {j s : Nat} (hj : S[j]? = some s) : wr.cell? ⟨SB, j, none⟩ = some (.int .i64 (s : Int)) := by
  have hlt : j < m := by
    rw [h.1]
    rcases Nat.lt_or_ge j S.length with h1 | h1
    · exact h1
    · rw [List.getElem?_eq_none h1] at hj; cases hj
  exact (h.2.2.1.cellAt j (by omega)).trans (by simp [hj])
theorem Rs.blk (h : Rs w n f S m SB c wr) : w.heap.size < SB ∧ SB < wr.heap.size := by
  have := h.2.2.1.lt SB rfl; omega
theorem Rs.set (h : Rs w n f S m SB c wr) (p : Nat) (v : Int) : Rs w n (updI f p v) S m SB c (wr.setCell ⟨w.heap.size, p, none⟩ (.int .i64 v)) := by
  have hb := h.blk
  refine ⟨h.1, (h.2.1.set p (.int .i64 v)).congr (fun i _ => ?_), ?_, h.2.2.2.trans ⟨rfl, rfl, rfl, by simp [World.setCell], fun b hb => Below.heap_setCell _ _ _ _ (by show b ≠ w.heap.size; omega)⟩⟩
  · simp only [updI]; split <;> rfl
  · obtain ⟨h1, h2⟩ := h.2.2.1
    refine ⟨h1, ?_⟩
    rcases h2 with h2 | ⟨q, cap, cur, e, hbq, hh, r⟩
    · exact .inl h2
    · refine .inr ⟨q, cap, cur, e, hbq, ?_, r⟩
      exact (Below.heap_setCell _ _ _ _ (by show q ≠ w.heap.size; omega)).trans hh
theorem Rs.reset (h : Rs w n f S m SB c wr) : Rs w n f [] 0 SB c wr := by
  refine ⟨rfl, h.2.1, ⟨rfl, ?_⟩, h.2.2.2⟩
  rcases h.2.2.1.2 with ⟨h2, _⟩ | ⟨q, cap, cur, e, hbq, hh, h3, h4, h5, _⟩
  · cases h2
  · simp only [Value.slice.injEq, Option.some.injEq, Addr.mk.injEq, true_and, and_true] at e
    obtain ⟨rfl, rfl⟩ := e
    exact .inr ⟨_, _, cur, rfl, hbq, hh, by omega, h4, h5, by simp⟩
theorem Rs.push (h : Rs w n f S m SB c wr) (x : Nat) (hm : m ≤ 1048576) :
    ∃ SB' c' w2, (Builtin.append_ #[38, 38] 38 #[.slice (some ⟨SB, 0, none⟩) m c, .slice (some ⟨wr.heap.size, 0, none⟩) 1 1]).run Tryd.prog (wr.alloc (.cells #[.int .i64 (x : Int)] 3)) = .ok (.slice (some ⟨SB', 0, none⟩) (m + 1) c') w2 ∧ Rs w n f (S ++ [x]) (m + 1) SB' c' w2 := by
  obtain ⟨i, hi, hz⟩ := Option.map_eq_some_iff.1 info3
  simp only [Prod.mk.injEq] at hz
  obtain ⟨hz1, hz2, hz3⟩ := hz
  have hlt := h.2.1.lt
  have hb : (wr.alloc (.cells #[.int .i64 (x : Int)] 3)).heap[wr.heap.size]? = some (.cells #[.int .i64 (x : Int)] 3 (0, 0)) := heap_alloc_new wr _
  have hsz : (wr.alloc (.cells #[.int .i64 (x : Int)] 3)).heap.size = wr.heap.size + 1 := by simp
  obtain ⟨SB', c', w2, hrun, hown, hgrow, hat, hl2⟩ := run_append_lies (P := Tryd.prog) (wr.alloc (.cells #[.int .i64 (x : Int)] 3)) 38 38 (w.heap.size + 1) 3 i _ 1 8 Tryd.underlying38 hi hz1 hz2 hz3 (by rfl) (by decide) _ m _ (h.2.2.1.alloc _) ⟨wr.heap.size, 0, none⟩ 1 1 [.int .i64 (x : Int)] rfl (World.news_of_block hb) (by simp [Value.oneCell']) (by decide) (by unfold maxLen; omega) (by omega) (by rw [hsz]; omega) _ rfl
  have hbk := h.blk
  refine ⟨SB', c', w2, hrun, by simp [h.1], ?_, by rw [List.map_append]; exact hown, ?_⟩
  · refine h.2.1.of_block ((hgrow.block w.heap.size (by rw [hsz]; omega) (fun e => by simp only [Value.ownBlock, Option.some.injEq] at e; omega)).trans (Below.heap_alloc _ _ _ hlt))
  · refine h.2.2.2.trans ⟨hgrow.os, hgrow.tape, hgrow.output, by have := hgrow.size; rw [hsz] at this; omega, fun b hbb => ?_⟩
    exact (hgrow.block b (by rw [hsz]; omega) (fun e => by simp only [Value.ownBlock, Option.some.injEq] at e; omega)).trans (Below.heap_alloc _ _ _ (by omega))
theorem Rs.start {w3 : World} (h : w3.rowIs w.heap.size 2 n (fun i => .int .i64 (f i))) (hB : Below w.heap.size w w3) : Rs w n f [] 0 w3.heap.size 16 (w3.alloc (.cells (madeCells #[.int .i64 0] 16) 3)) := by
  have hlt := h.lt
  refine ⟨rfl, h.alloc _, ⟨rfl, .inr ⟨_, 16, _, rfl, by omega, heap_alloc_new w3 _, by omega, by unfold maxLen; omega, by simp [madeCells], by simp⟩⟩, hB.alloc (by omega) _⟩
end
/-- What the model of roots answers. -/
def RtP (w : World) (n : Nat) (l : Nat → Option Nat) (e : Ending) (w' : World) : Prop :=
  Below w.heap.size w w' ∧ ((e = .returned (.tuple #[.slice none 0 0, .bool false]) ∧ ¬ ∀ i, i < n → ∃ r, Rt l i r) ∨
    ∃ (a : Option Addr) (c : Nat) (f : Nat → Nat), e = .returned (.tuple #[.slice a n c, .bool true]) ∧ Row w' a n (fun i => .int .i64 (f i)) ∧ ∀ i, i < n → Rt l i (f i))
theorem RtP.no {w w' : World} {n : Nat} {l : Nat → Option Nat} (hB : Below w.heap.size w w') (h : ¬ ∀ i, i < n → ∃ r, Rt l i r) : RtP w n l (.returned (.tuple #[.slice none 0 0, .bool false])) w' := ⟨hB, .inl ⟨rfl, h⟩⟩
theorem RtP.yes {w w' : World} {n m SB c : Nat} {l : Nat → Option Nat} {f : Nat → Int} {S : List Nat} (h : Rs w n f S m SB c w') (hK : Known n l f) (hall : ∀ j, j < n → f j ≠ -2) : RtP w n l (.returned (.tuple #[.slice (some ⟨w.heap.size, 0, none⟩) n n, .bool true])) w' := by
  have hx : ∀ j, j < n → f j = ((f j).toNat : Int) ∧ Rt l j (f j).toNat := by
    intro j hj
    rcases hK j hj with h1 | ⟨r, h1, h2⟩
    · exact absurd h1 (hall j hj)
    · rw [h1]; exact ⟨by simp, by simpa using h2⟩
  refine ⟨h.bel, .inr ⟨_, n, fun j => (f j).toNat, rfl, fun h0 => ⟨_, 0, rfl, fun i hi => ?_⟩, fun i hi => (hx i hi).2⟩⟩
  rw [Nat.zero_add, (h.get hi).1]
  show some (Value.int .i64 (f i)) = some (Value.int .i64 ((f i).toNat : Int))
  rw [← (hx i hi).1]
end Go.Proofs.YtnemldibhdphoaaDoor.lk
