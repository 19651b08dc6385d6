/-
  The usage counts of a parser: recordUsage, ignoreUsage.
-/
import Derived.Test.YtcpibdgihomleaaMk
import Derived.OpenShut
import Derived.Lib.Hide
import Derived.WalkLawsBesides
import Derived.Deep.OwnRows
import Derived.Laws.Rows
import Derived.WalkSpells
import Derived.Laws.Tables
import Derived.WalkSmall
import Derived.Outline
import Derived.BigQuiet
import Derived.Deep.RegionLaw
namespace Go.Proofs.Ytcpibdgihomleaa.us
open Go.ChangeShapes Go.WideShapes Go.ChangeAt Go.RowKit Go.Deep Go.Proofs.Ytcpibdgihomleaa.mk
set_option linter.unusedVariables false
/-- But for the blocks F, what was there is as it was. -/
structure Touch (F : Nat → Prop) (w w' : World) : Prop where
  os : w'.os = w.os
  tape : w'.tape = w.tape
  output : w'.output = w.output
  size : w.heap.size ≤ w'.heap.size
  block : ∀ k, k < w.heap.size → ¬ F k → w'.heap[k]? = w.heap[k]?
theorem Touch.refl (F : Nat → Prop) (w : World) : Touch F w w := ⟨rfl, rfl, rfl, Nat.le_refl _, fun _ _ _ => rfl⟩
theorem Touch.trans {F : Nat → Prop} {a b c : World} (h : Touch F a b) (k : Touch F b c) : Touch F a c :=
  ⟨k.os.trans h.os, k.tape.trans h.tape, k.output.trans h.output, Nat.le_trans h.size k.size, fun i hi hn => (k.block i (Nat.lt_of_lt_of_le hi h.size) hn).trans (h.block i hi hn)⟩
theorem Touch.mono {F G : Nat → Prop} {w w' : World} (h : Touch F w w') (e : ∀ k, k < w.heap.size → F k → G k) : Touch G w w' := ⟨h.os, h.tape, h.output, h.size, fun k hk hn => h.block k hk fun f => hn (e k hk f)⟩
theorem Touch.drew {F : Nat → Prop} {a w : World} (h : Touch F a w) : Touch F a w.drew := ⟨h.os, h.tape, h.output, h.size, h.block⟩
theorem Touch.alloc {F : Nat → Prop} {a w : World} (h : Touch F a w) (o : Obj) : Touch F a (w.alloc o) :=
  h.trans ⟨rfl, rfl, rfl, by simp, fun k hk _ => Below.heap_alloc _ _ _ hk⟩
theorem Touch.setCell {F : Nat → Prop} {a w : World} (h : Touch F a w) (p : Addr) (hp : p.block < a.heap.size → F p.block) (u : Value) : Touch F a (w.setCell p u) :=
  ⟨h.os, h.tape, h.output, by rw [show (w.setCell p u).heap.size = w.heap.size by simp [World.setCell]]; exact h.size, fun k hk hn => (Below.heap_setCell _ _ _ _ (fun e => hn (by rw [e]; exact hp (by rw [← e]; exact hk)))).trans (h.block k hk hn)⟩
theorem Touch.grown {F : Nat → Prop} {a w w' : World} {row : Option Nat} (h : Touch F a w) (hg : w.grownBy w' row) (hr : ∀ k, row = some k → k < a.heap.size → F k) : Touch F a w' :=
  ⟨hg.os.trans h.os, hg.tape.trans h.tape, hg.output.trans h.output, Nat.le_trans h.size hg.size, fun k hk hn => (hg.block k (Nat.lt_of_lt_of_le hk h.size) (fun e => hn (hr k e.symm hk))).trans (h.block k hk hn)⟩
theorem Touch.below {F : Nat → Prop} {w w' : World} (h : Touch F w w') {B : Nat} (hB : B ≤ w.heap.size) (hF : ∀ k, F k → B ≤ k) : Below B w w' :=
  ⟨h.os, h.tape, h.output, h.size, fun k hk => h.block k (by omega) (fun f => by have := hF k f; omega)⟩
theorem Touch.of_below {w w' : World} (h : Below w.heap.size w w') (F : Nat → Prop) : Touch F w w' := ⟨h.os, h.tape, h.output, h.size, fun k hk _ => h.block k hk⟩
theorem Touch.then {F : Nat → Prop} {a w w' : World} (h : Touch F a w) (hb : Below w.heap.size w w') : Touch F a w' := ⟨hb.os.trans h.os, hb.tape.trans h.tape, hb.output.trans h.output, Nat.le_trans h.size hb.size, fun k hk hn => (hb.block k (Nat.lt_of_lt_of_le hk h.size)).trans (h.block k hk hn)⟩
theorem onlyB_touch {b : Nat} {w w' : World} (h : OnlyB b w w') : Touch (fun j => j = b) w w' := ⟨h.os, h.tape, h.output, by rw [h.size]; exact Nat.le_refl _, fun k _ hn => h.block k hn⟩

/-- A column of numbers: number i at place ad i of block b. -/
def Col (w : World) (b n : Nat) (ad : Nat → Nat) (U : Nat → Nat) : Prop := (∀ i j, ad i = ad j → i = j) ∧ ∀ i, i < n → w.cell? ⟨b, ad i, none⟩ = some (.int .u32 (U i)) ∧ w.frozen? ⟨b, ad i, none⟩ = false
theorem Col.of_block {w w' : World} {b n : Nat} {ad U : Nat → Nat} (h : Col w b n ad U) (e : w'.heap[b]? = w.heap[b]?) : Col w' b n ad U :=
  ⟨h.1, fun i hi => ⟨(World.cell?_of_block (a := ⟨b, ad i, none⟩) e).trans (h.2 i hi).1, (World.frozen?_of_block (a := ⟨b, ad i, none⟩) e).trans (h.2 i hi).2⟩⟩
def inc (U : Nat → Nat) (i x : Nat) : Nat → Nat := fun j => if j = i then x else U j
theorem Col.set {w : World} {b n : Nat} {ad U : Nat → Nat} (h : Col w b n ad U) {i : Nat} (hi : i < n) (x : Nat) : Col (w.setCell ⟨b, ad i, none⟩ (.int .u32 x)) b n ad (inc U i x) := by
  refine ⟨h.1, fun j hj => ⟨?_, ?_⟩⟩
  · by_cases e : j = i
    · subst e
      rw [World.cell?_setCell_same _ _ _ (h.2 j hj).1]; simp [inc]
    · rw [World.cell?_setCell_other _ _ _ _ (fun e' => e (h.1 _ _ (by simpa using (congrArg Addr.off e').symm)))]
      simp only [inc, if_neg e]; exact (h.2 j hj).1
  · rw [World.frozen?_setCell]; exact (h.2 j hj).2

def wid (pt : Bool) : Nat := if pt then 5 else 3
theorem wid_true : wid true = 5 := rfl
theorem wid_false : wid false = 3 := rfl
theorem wid_ge (pt : Bool) : 3 ≤ wid pt := by cases pt <;> decide
def ref (i : Nat) : Value := .agg #[.int .u32 0, .int .u32 i]
theorem ref_key (i : Nat) : RefKey (ref i) := ⟨0, i, rfl⟩
theorem ref_inj {i j : Nat} (h : ref i = ref j) : i = j := by simp [ref] at h; omega
/-- What the map holds for a count. -/
def mval : Nat → Option Value
  | 0 => none
  | x + 1 => some (.agg #[.int .u32 ((x + 1 : Nat) : Int)])
def cnt (E : Nat → Nat) : Nat → Nat
  | 0 => 0
  | n + 1 => cnt E n + if E n = 0 then 0 else 1
def MapE (w : World) (b n : Nat) (E : Nat → Nat) : Prop := ∃ m M, MapIs w b RefKey m M ∧ (∀ i, i < n → M (ref i) = mval (E i)) ∧ m = cnt E n
theorem cnt_inc_same {E : Nat → Nat} {i x : Nat} : ∀ {n : Nat}, n ≤ i → cnt (inc E i x) n = cnt E n
  | 0, _ => rfl
  | n + 1, h => by
    simp only [cnt, cnt_inc_same (show n ≤ i by omega)]
    rw [show inc E i x n = E n by simp [inc]; omega]
theorem cnt_inc {E : Nat → Nat} {i x : Nat} : ∀ {n : Nat}, i < n → cnt (inc E i x) n + (if E i = 0 then 0 else 1) = cnt E n + if x = 0 then 0 else 1
  | 0, h => by omega
  | n + 1, h => by
    simp only [cnt]
    by_cases e : i = n
    · subst e
      rw [cnt_inc_same (Nat.le_refl _), show inc E i x i = x by simp [inc]]
      omega
    · have := cnt_inc (E := E) (x := x) (show i < n by omega)
      rw [show inc E i x n = E n by simp [inc]; omega]
      omega
theorem mval_some (x : Nat) : (mval x).isSome = decide (x ≠ 0) := by cases x <;> simp [mval]
theorem mval_get (x : Nat) : (mval x).getD (.agg #[.int .u32 0]) = .agg #[.int .u32 (x : Int)] := by cases x <;> rfl
theorem MapE.of_block {w w' : World} {b n : Nat} {E : Nat → Nat} (h : MapE w b n E) (e : w'.heap[b]? = w.heap[b]?) : MapE w' b n E := by
  obtain ⟨m, M, h1, h2, h3⟩ := h; exact ⟨m, M, h1.of_block e, h2, h3⟩
theorem zero178 (w : World) : (zeroValue 178).run Try.prog w = .ok (.agg #[.int .u32 0]) w := by kernel_rfl
theorem MapE.look {w : World} {b n : Nat} {E : Nat → Nat} (h : MapE w b n E) {i : Nat} (hi : i < n) : (Instr.lookup 160 (.map (some b)) (.agg #[.int .u32 0, .int .u32 i]) false).run Try.prog w = .ok (.agg #[.int .u32 (E i)]) w := by
  obtain ⟨m, M, h1, h2, h3⟩ := h
  have := h1.look (refKey w) Try.underlying160 (zero178 w) (ref_key i) false
  rw [h2 i hi, mval_get] at this
  exact this
theorem MapE.look2 {w : World} {b n : Nat} {E : Nat → Nat} (h : MapE w b n E) {i : Nat} (hi : i < n) : (Instr.lookup 160 (.map (some b)) (.agg #[.int .u32 0, .int .u32 i]) true).run Try.prog w = .ok (.tuple #[.agg #[.int .u32 (E i)], .bool (decide (E i ≠ 0))]) w := by
  obtain ⟨m, M, h1, h2, h3⟩ := h
  have := h1.look (refKey w) Try.underlying160 (zero178 w) (ref_key i) true
  rw [h2 i hi, mval_get, mval_some] at this
  exact this
theorem MapE.put {w : World} {b n : Nat} {E : Nat → Nat} (h : MapE w b n E) {i : Nat} (hi : i < n) {x : Nat} (hx : x ≠ 0) {z : Int} (ez : z = x) :
    ∃ w', (Instr.mapUpdate 160 (.map (some b)) (.agg #[.int .u32 0, .int .u32 i]) (.agg #[.int .u32 z])).run Try.prog w = .ok () w' ∧ MapE w' b n (inc E i x) ∧ OnlyB b w w' := by
  subst ez
  obtain ⟨m, M, h1, h2, h3⟩ := h
  obtain ⟨w', e1, e2, e3⟩ := h1.put (refKey w) Try.underlying160 (ref_key i) (.agg #[.int .u32 (x : Int)])
  refine ⟨w', e1, ⟨_, _, e2, fun j hj => ?_, ?_⟩, e3⟩
  · by_cases e : j = i
    · subst e
      rw [upd_same]
      obtain ⟨y, rfl⟩ : ∃ y, x = y + 1 := ⟨x - 1, by omega⟩
      simp [inc, mval]
    · rw [upd_other _ _ (fun h => e (ref_inj h)), h2 j hj]; simp [inc, e]
  · have := cnt_inc (E := E) (x := x) hi
    rw [h2 i hi, mval_some, h3]
    by_cases h0 : E i = 0
    · simp [h0, hx] at this ⊢; omega
    · simp [h0, hx] at this ⊢; omega
theorem MapE.drop {w : World} {b n : Nat} {E : Nat → Nat} (h : MapE w b n E) {i : Nat} (hi : i < n) :
    ∃ w', (∀ t2 ty, (Builtin.delete_ #[160, t2] ty #[.map (some b), .agg #[.int .u32 0, .int .u32 i]]).run Try.prog w = .ok (.tuple #[]) w') ∧ MapE w' b n (inc E i 0) ∧ OnlyB b w w' := by
  obtain ⟨m, M, h1, h2, h3⟩ := h
  obtain ⟨w', e1, e2, e3⟩ := h1.drop (refKey w) Try.underlying160 (ref_key i) 155 0
  refine ⟨w', fun t2 ty => e1, ⟨_, _, e2, fun j hj => ?_, ?_⟩, e3⟩
  · by_cases e : j = i
    · subst e
      rw [del_same]; simp [inc, mval]
    · rw [del_other _ (fun h => e (ref_inj h)), h2 j hj]; simp [inc, e]
  · have := cnt_inc (E := E) (x := 0) hi
    rw [h2 i hi, mval_some, h3]
    by_cases h0 : E i = 0
    · simp [h0] at this ⊢; omega
    · simp [h0] at this ⊢; omega
theorem MapE.len {w : World} {b n : Nat} {E : Nat → Nat} (h : MapE w b n E) (ty : TypeId) : (Builtin.len_ #[160] ty #[.map (some b)]).run Try.prog w = .ok (.int .i64 (cnt E n)) w := by
  obtain ⟨m, M, h1, h2, rfl⟩ := h
  exact h1.len Try.underlying160 ty

/-- The parser at block g: its symbols' counts U, its TypeScript counts C, its part's counts E. -/
structure St (w : World) (g n : Nat) (dead ts pt : Bool) (U C E : Nat → Nat) : Prop where
  c350 : w.cell? ⟨g, 350, none⟩ = some (.bool dead)
  c32 : w.cell? ⟨g, 32, none⟩ = some (.bool ts)
  c105 : w.cell? ⟨g, 105, none⟩ = some (.pointer (if pt then some ⟨g + 4, 0, none⟩ else none))
  c106 : w.cell? ⟨g, 106, none⟩ = some (.slice (some ⟨g + 1, 0, none⟩) n n)
  c108 : w.cell? ⟨g, 108, none⟩ = some (.slice (some ⟨g + 2, 0, none⟩) n n)
  colU : Col w (g + 1) n (fun i => i * 10 + 4) U
  colC : Col w (g + 2) n (fun i => i) C
  mp : pt = true → w.cell? ⟨g + 4, 4, none⟩ = some (.map (some (g + 3))) ∧ MapE w (g + 3) n E
  sz : g + wid pt ≤ w.heap.size
theorem St.keep {w w' : World} {g n : Nat} {dead ts pt : Bool} {U C E : Nat → Nat} (h : St w g n dead ts pt U C E) {F : Nat → Prop} (ht : Touch F w w') (hF : ∀ k, g ≤ k → k < g + wid pt → ¬ F k) : St w' g n dead ts pt U C E := by
  have hs := h.sz
  have bl : ∀ k, g ≤ k → k < g + wid pt → w'.heap[k]? = w.heap[k]? := fun k h1 h2 => ht.block k (by omega) (hF k h1 h2)
  have b0 := bl g (by omega) (by have := wid_ge pt; omega)
  have c : ∀ j, w'.cell? ⟨g, j, none⟩ = w.cell? ⟨g, j, none⟩ := fun j => World.cell?_of_block (a := ⟨g, j, none⟩) b0
  refine ⟨(c _).trans h.c350, (c _).trans h.c32, (c _).trans h.c105, (c _).trans h.c106, (c _).trans h.c108, h.colU.of_block (bl _ (by omega) (by have := wid_ge pt; omega)), h.colC.of_block (bl _ (by omega) (by have := wid_ge pt; omega)), fun hp => ?_, Nat.le_trans hs ht.size⟩
  subst hp
  obtain ⟨h1, h2⟩ := h.mp rfl
  exact ⟨(World.cell?_of_block (a := ⟨g + 4, 4, none⟩) (bl (g + 4) (by omega) (by rw [wid_true]; omega))).trans h1, h2.of_block (bl (g + 3) (by omega) (by rw [wid_true]; omega))⟩
theorem St.setU {w : World} {g n : Nat} {dead ts pt : Bool} {U C E : Nat → Nat} (h : St w g n dead ts pt U C E) {i : Nat} (hi : i < n) (x : Nat) : St (w.setCell ⟨g + 1, i * 10 + 4, none⟩ (.int .u32 x)) g n dead ts pt (inc U i x) C E := by
  have bl : ∀ k, k ≠ g + 1 → (w.setCell ⟨g + 1, i * 10 + 4, none⟩ (.int .u32 x)).heap[k]? = w.heap[k]? := fun k hk => Below.heap_setCell _ _ _ _ hk
  have c : ∀ j, (w.setCell ⟨g + 1, i * 10 + 4, none⟩ (.int .u32 x)).cell? ⟨g, j, none⟩ = w.cell? ⟨g, j, none⟩ := fun j => World.cell?_of_block (a := ⟨g, j, none⟩) (bl g (by omega))
  refine ⟨(c _).trans h.c350, (c _).trans h.c32, (c _).trans h.c105, (c _).trans h.c106, (c _).trans h.c108, h.colU.set hi x, h.colC.of_block (bl _ (by omega)), fun hp => ?_, by simpa using h.sz⟩
  obtain ⟨h1, h2⟩ := h.mp hp
  exact ⟨(World.cell?_of_block (a := ⟨g + 4, 4, none⟩) (bl _ (by simp))).trans h1, h2.of_block (bl _ (by omega))⟩
theorem St.setC {w : World} {g n : Nat} {dead ts pt : Bool} {U C E : Nat → Nat} (h : St w g n dead ts pt U C E) {i : Nat} (hi : i < n) (x : Nat) : St (w.setCell ⟨g + 2, i, none⟩ (.int .u32 x)) g n dead ts pt U (inc C i x) E := by
  have bl : ∀ k, k ≠ g + 2 → (w.setCell ⟨g + 2, i, none⟩ (.int .u32 x)).heap[k]? = w.heap[k]? := fun k hk => Below.heap_setCell _ _ _ _ hk
  have c : ∀ j, (w.setCell ⟨g + 2, i, none⟩ (.int .u32 x)).cell? ⟨g, j, none⟩ = w.cell? ⟨g, j, none⟩ := fun j => World.cell?_of_block (a := ⟨g, j, none⟩) (bl g (by omega))
  refine ⟨(c _).trans h.c350, (c _).trans h.c32, (c _).trans h.c105, (c _).trans h.c106, (c _).trans h.c108, h.colU.of_block (bl _ (by omega)), h.colC.set hi x, fun hp => ?_, by simpa using h.sz⟩
  obtain ⟨h1, h2⟩ := h.mp hp
  exact ⟨(World.cell?_of_block (a := ⟨g + 4, 4, none⟩) (bl _ (by simp))).trans h1, h2.of_block (bl _ (by omega))⟩
theorem St.setE {w w' : World} {g n : Nat} {dead ts : Bool} {U C E E' : Nat → Nat} (h : St w g n dead ts true U C E) (ho : OnlyB (g + 3) w w') (hm : MapE w' (g + 3) n E') : St w' g n dead ts true U C E' := by
  have bl : ∀ k, k ≠ g + 3 → w'.heap[k]? = w.heap[k]? := fun k hk => ho.block k hk
  have c : ∀ j, w'.cell? ⟨g, j, none⟩ = w.cell? ⟨g, j, none⟩ := fun j => World.cell?_of_block (a := ⟨g, j, none⟩) (bl g (by omega))
  refine ⟨(c _).trans h.c350, (c _).trans h.c32, (c _).trans h.c105, (c _).trans h.c106, (c _).trans h.c108, h.colU.of_block (bl _ (by omega)), h.colC.of_block (bl _ (by omega)), fun _ => ⟨?_, hm⟩, by rw [ho.size]; exact h.sz⟩
  exact (World.cell?_of_block (a := ⟨g + 4, 4, none⟩) (bl _ (by simp))).trans (h.mp rfl).1

theorem St.uI {w : World} {g n : Nat} {dead ts pt : Bool} {U C E : Nat → Nat} (h : St w g n dead ts pt U C E) {i : Nat} (hi : i < n) {x : Int} {y : Nat} (e : x = y) (o : Obj) : St (((w.setCell ⟨g + 1, i * 10 + 4, none⟩ (.int .u32 x)).alloc o).drew) g n dead ts pt (inc U i y) C E := by
  subst e
  exact (h.setU hi y).keep (F := fun _ => False) ((Touch.refl _ _).alloc o).drew (fun _ _ _ h => h)
theorem St.cI {w : World} {g n : Nat} {dead ts pt : Bool} {U C E : Nat → Nat} (h : St w g n dead ts pt U C E) {i : Nat} (hi : i < n) {x : Int} {y : Nat} (e : x = y) : St ((w.setCell ⟨g + 2, i, none⟩ (.int .u32 x)).drew) g n dead ts pt U (inc C i y) E := by
  subst e
  exact (h.setC hi y).keep (F := fun _ => False) (Touch.refl _ _).drew (fun _ _ _ h => h)
theorem St.cA {w : World} {g n : Nat} {dead ts pt : Bool} {U C E : Nat → Nat} (h : St w g n dead ts pt U C E) {i : Nat} (hi : i < n) {x : Int} {y : Nat} (e : x = y) (o : Obj) : St (((w.setCell ⟨g + 2, i, none⟩ (.int .u32 x)).alloc o).drew) g n dead ts pt U (inc C i y) E := by
  subst e
  exact (h.setC hi y).keep (F := fun _ => False) ((Touch.refl _ _).alloc o).drew (fun _ _ _ h => h)
/-- What the two calls leave: only the parser's own blocks have changed. -/
theorem step_delete {P : Program} {ops : Array Oper} {o : Oper} {a : Act} {w : World} {K : Act → World → Prop} {Q : Exit → Act → World → Prop} {E : Prop} (hgd : o.guard = none) (m x : Operand) (t k : TypeId)
    (ho : o.op = .call { callee := .builtin .delete, args := #[m, x], argTypes := #[t, k] }) (vm vx : Value) (hm : a.eval m = vm) (hx : a.eval x = vx) (w' : World)
    (hrun : ∀ t2 ty, (Builtin.delete_ #[t, t2] ty #[vm, vx]).run P w = .ok (.tuple #[]) w') (h : K (a.put o.dst (.tuple #[])) w') :
    if Region.wanted o (yielded ops a.tmps) = true then Oper.wp P o a w K Q else E := by
  have hw : Region.wanted o (yielded ops a.tmps) = true := by simp [Region.wanted, hgd]
  rw [if_pos hw]
  unfold Oper.wp
  simp [execOp, ho, resolve, invoke, builtin, hm, hx, hrun, Result.andThen]
  exact h
def UseP (w : World) (g n : Nat) (dead ts pt : Bool) (U C E : Nat → Nat) (e : Ending) (w' : World) : Prop := e = .returned (.tuple #[]) ∧ St w' g n dead ts pt U C E ∧ Touch (fun k => g ≤ k ∧ k < g + wid pt) w w'

set_option maxRecDepth 100000 in
set_option maxHeartbeats 4000000 in
theorem t12_false_true_true (w : World) (g n i : Nat) (U C E : Nat → Nat) (h : St w g n false true true U C E) (hi : i < n) (hn : n ≤ 4096) (hU : U i ≤ 1000000) (hE : E i ≤ 1000000) (hC : C i ≤ 1000000) :
    Calls Try.prog 12 #[.pointer (some ⟨g, 0, none⟩), .agg #[.int .u32 0, .int .u32 i]] w (UseP w g n false true true (inc U i (U i + 1)) (inc C i (C i + 1)) (inc E i (E i + 1))) := by
  have H := Lib.hid h
  have hsz := h.sz
  rw [wid_true] at hsz
  have hg : g < w.heap.size := by omega
  have hg1 : g + 1 < w.heap.size := by omega
  have hg2 : g + 2 < w.heap.size := by omega
  have c1 := h.c350
  have HT : Hid (Touch (fun k => g ≤ k ∧ k < g + wid true) w w) := Lib.hid (Touch.refl _ _)
  have c2 := h.c106
  have c3 := (h.colU.2 i hi).1
  have f3 := (h.colU.2 i hi).2
  simp only at c3 f3
  clear h
  go_enter Try.func12, Try.ntmps12
  go_wp2
  go_region
  all_goals
    have H1 := Lib.hid (H.out.uI hi (x := (U i : Int) + 1) (y := U i + 1) (by omega) (.cells #[.int .u32 0, .int .u32 i] 155))
    have T1 : Hid (Touch (fun k => g ≤ k ∧ k < g + wid true) w (((w.setCell ⟨g + 1, i * 10 + 4, none⟩ (.int .u32 ((U i : Int) + 1))).alloc (.cells #[.int .u32 0, .int .u32 i] 155)).drew)) := Lib.hid ((HT.out.setCell _ (fun _ => ⟨by simp, by have := wid_ge true; simp; omega⟩) _).alloc _).drew
    have r0 : (((w.setCell ⟨g + 1, i * 10 + 4, none⟩ (.int .u32 ((U i : Int) + 1))).alloc (.cells #[.int .u32 0, .int .u32 i] 155)).drew).cell? ⟨w.heap.size, 0, none⟩ = some (.int .u32 0) := by go_simp
    have r1 : (((w.setCell ⟨g + 1, i * 10 + 4, none⟩ (.int .u32 ((U i : Int) + 1))).alloc (.cells #[.int .u32 0, .int .u32 i] 155)).drew).cell? ⟨w.heap.size, 1, none⟩ = some (.int .u32 i) := by go_simp
    have hs1 : (((w.setCell ⟨g + 1, i * 10 + 4, none⟩ (.int .u32 ((U i : Int) + 1))).alloc (.cells #[.int .u32 0, .int .u32 i] 155)).drew).heap.size = w.heap.size + 1 := by simp [heap_drew]
    clear c1 c2 c3 f3
    generalize (((w.setCell ⟨g + 1, i * 10 + 4, none⟩ (.int .u32 ((U i : Int) + 1))).alloc (.cells #[.int .u32 0, .int .u32 i] 155)).drew) = w1 at *
    have hR : w.heap.size < w1.heap.size := by omega
    have hgw : g + 5 ≤ w1.heap.size + 2 := by omega
    have c5 := H1.out.c105
    simp only [if_true] at c5
    clear hs1
    have hg4 : g + 4 < w1.heap.size := by omega
    have c6 := (H1.out.mp rfl).1
    have hl := (show MapE w1.drew (g + 3) n E from (H1.out.mp rfl).2).look hi
    have hl2 := (show MapE ((w1.alloc (.cells #[.int .u32 0] 178)).drew) (g + 3) n E from (H1.out.mp rfl).2.of_block (Below.heap_alloc _ _ _ (by omega))).look hi
    go_wp2
    go_region
    all_goals
      go_wp2
      have H2 : Hid (St ((w1.alloc (.cells #[.int .u32 ((E i : Int) + 1)] 178)).drew) g n false true true (inc U i (U i + 1)) C E) := Lib.hid (H1.out.keep (F := fun _ => False) ((Touch.refl _ _).alloc _).drew (fun _ _ _ h => h))
      have T2 : Hid (Touch (fun k => g ≤ k ∧ k < g + wid true) w ((w1.alloc (.cells #[.int .u32 ((E i : Int) + 1)] 178)).drew)) := Lib.hid (T1.out.alloc _).drew
      have u0 : ((w1.alloc (.cells #[.int .u32 ((E i : Int) + 1)] 178)).drew).cell? ⟨w1.heap.size, 0, none⟩ = some (.int .u32 ((E i : Int) + 1)) := by go_simp
      have q0 : ((w1.alloc (.cells #[.int .u32 ((E i : Int) + 1)] 178)).drew).cell? ⟨w.heap.size, 0, none⟩ = some (.int .u32 0) := by go_simp
      have q1 : ((w1.alloc (.cells #[.int .u32 ((E i : Int) + 1)] 178)).drew).cell? ⟨w.heap.size, 1, none⟩ = some (.int .u32 i) := by go_simp
      clear hl hl2 r0 r1 c5 c6 H1 T1
      generalize ((w1.alloc (.cells #[.int .u32 ((E i : Int) + 1)] 178)).drew) = w2 at *
      generalize w1.heap.size = R2 at *
      generalize hR1 : w.heap.size = R1 at *
      have HR1 := Lib.hid hR1
      clear hR1
      have d6 := (H2.out.mp rfl).1
      have d2 := H2.out.c32
      obtain ⟨w3, hup, hM3, hO3⟩ := MapE.put (w := w2.drew) (H2.out.mp rfl).2 hi (x := E i + 1) (by omega) (z := (E i : Int) + 1) (by omega)
      have H3 : Hid (St w3 g n false true true (inc U i (U i + 1)) C (inc E i (E i + 1))) := Lib.hid ((show St w2.drew g n false true true (inc U i (U i + 1)) C E from H2.out.keep (F := fun _ => False) (Touch.refl _ _).drew (fun _ _ _ h => h)).setE hO3 hM3)
      have T3 : Hid (Touch (fun k => g ≤ k ∧ k < g + wid true) w w3) := Lib.hid (T2.out.drew.trans ((onlyB_touch hO3).mono (fun k _ e => by subst e; rw [wid_true]; exact ⟨by omega, by omega⟩)))
      have r3 : w3.cell? ⟨R1, 0, none⟩ = some (.int .u32 0) := (hO3.cell (p := ⟨R1, 0, none⟩) (by simp; omega)).trans q0
      have r4 : w3.cell? ⟨R1, 1, none⟩ = some (.int .u32 i) := (hO3.cell (p := ⟨R1, 1, none⟩) (by simp; omega)).trans q1
      have d3 := H3.out.c32
      clear hM3 hO3
      have d8 := H3.out.c108
      have e8 := (H3.out.colC.2 i hi).1
      have e9 := (H3.out.colC.2 i hi).2
      simp only at e8 e9
      go_region
      all_goals
        go_wp2
        go_region
        all_goals
          go_wp2
          go_end0
          exact ⟨rfl, H3.out.cI hi (by omega), (T3.out.setCell _ (fun _ => ⟨by simp, by have := wid_ge true; simp; omega⟩) _).drew⟩

set_option maxRecDepth 100000 in
set_option maxHeartbeats 4000000 in
theorem t12_false_true_false (w : World) (g n i : Nat) (U C E : Nat → Nat) (h : St w g n false false true U C E) (hi : i < n) (hn : n ≤ 4096) (hU : U i ≤ 1000000) (hE : E i ≤ 1000000) (hC : C i ≤ 1000000) :
    Calls Try.prog 12 #[.pointer (some ⟨g, 0, none⟩), .agg #[.int .u32 0, .int .u32 i]] w (UseP w g n false false true (inc U i (U i + 1)) C (inc E i (E i + 1))) := by
  have H := Lib.hid h
  have hsz := h.sz
  rw [wid_true] at hsz
  have hg : g < w.heap.size := by omega
  have hg1 : g + 1 < w.heap.size := by omega
  have hg2 : g + 2 < w.heap.size := by omega
  have c1 := h.c350
  have HT : Hid (Touch (fun k => g ≤ k ∧ k < g + wid true) w w) := Lib.hid (Touch.refl _ _)
  have c2 := h.c106
  have c3 := (h.colU.2 i hi).1
  have f3 := (h.colU.2 i hi).2
  simp only at c3 f3
  clear h
  go_enter Try.func12, Try.ntmps12
  go_wp2
  go_region
  all_goals
    have H1 := Lib.hid (H.out.uI hi (x := (U i : Int) + 1) (y := U i + 1) (by omega) (.cells #[.int .u32 0, .int .u32 i] 155))
    have T1 : Hid (Touch (fun k => g ≤ k ∧ k < g + wid true) w (((w.setCell ⟨g + 1, i * 10 + 4, none⟩ (.int .u32 ((U i : Int) + 1))).alloc (.cells #[.int .u32 0, .int .u32 i] 155)).drew)) := Lib.hid ((HT.out.setCell _ (fun _ => ⟨by simp, by have := wid_ge true; simp; omega⟩) _).alloc _).drew
    have r0 : (((w.setCell ⟨g + 1, i * 10 + 4, none⟩ (.int .u32 ((U i : Int) + 1))).alloc (.cells #[.int .u32 0, .int .u32 i] 155)).drew).cell? ⟨w.heap.size, 0, none⟩ = some (.int .u32 0) := by go_simp
    have r1 : (((w.setCell ⟨g + 1, i * 10 + 4, none⟩ (.int .u32 ((U i : Int) + 1))).alloc (.cells #[.int .u32 0, .int .u32 i] 155)).drew).cell? ⟨w.heap.size, 1, none⟩ = some (.int .u32 i) := by go_simp
    have hs1 : (((w.setCell ⟨g + 1, i * 10 + 4, none⟩ (.int .u32 ((U i : Int) + 1))).alloc (.cells #[.int .u32 0, .int .u32 i] 155)).drew).heap.size = w.heap.size + 1 := by simp [heap_drew]
    clear c1 c2 c3 f3
    generalize (((w.setCell ⟨g + 1, i * 10 + 4, none⟩ (.int .u32 ((U i : Int) + 1))).alloc (.cells #[.int .u32 0, .int .u32 i] 155)).drew) = w1 at *
    have hR : w.heap.size < w1.heap.size := by omega
    have hgw : g + 5 ≤ w1.heap.size + 2 := by omega
    have c5 := H1.out.c105
    simp only [if_true] at c5
    clear hs1
    have hg4 : g + 4 < w1.heap.size := by omega
    have c6 := (H1.out.mp rfl).1
    have hl := (show MapE w1.drew (g + 3) n E from (H1.out.mp rfl).2).look hi
    have hl2 := (show MapE ((w1.alloc (.cells #[.int .u32 0] 178)).drew) (g + 3) n E from (H1.out.mp rfl).2.of_block (Below.heap_alloc _ _ _ (by omega))).look hi
    go_wp2
    go_region
    all_goals
      go_wp2
      have H2 : Hid (St ((w1.alloc (.cells #[.int .u32 ((E i : Int) + 1)] 178)).drew) g n false false true (inc U i (U i + 1)) C E) := Lib.hid (H1.out.keep (F := fun _ => False) ((Touch.refl _ _).alloc _).drew (fun _ _ _ h => h))
      have T2 : Hid (Touch (fun k => g ≤ k ∧ k < g + wid true) w ((w1.alloc (.cells #[.int .u32 ((E i : Int) + 1)] 178)).drew)) := Lib.hid (T1.out.alloc _).drew
      have u0 : ((w1.alloc (.cells #[.int .u32 ((E i : Int) + 1)] 178)).drew).cell? ⟨w1.heap.size, 0, none⟩ = some (.int .u32 ((E i : Int) + 1)) := by go_simp
      have q0 : ((w1.alloc (.cells #[.int .u32 ((E i : Int) + 1)] 178)).drew).cell? ⟨w.heap.size, 0, none⟩ = some (.int .u32 0) := by go_simp
      have q1 : ((w1.alloc (.cells #[.int .u32 ((E i : Int) + 1)] 178)).drew).cell? ⟨w.heap.size, 1, none⟩ = some (.int .u32 i) := by go_simp
      clear hl hl2 r0 r1 c5 c6 H1 T1
      generalize ((w1.alloc (.cells #[.int .u32 ((E i : Int) + 1)] 178)).drew) = w2 at *
      generalize w1.heap.size = R2 at *
      generalize hR1 : w.heap.size = R1 at *
      have HR1 := Lib.hid hR1
      clear hR1
      have d6 := (H2.out.mp rfl).1
      have d2 := H2.out.c32
      obtain ⟨w3, hup, hM3, hO3⟩ := MapE.put (w := w2.drew) (H2.out.mp rfl).2 hi (x := E i + 1) (by omega) (z := (E i : Int) + 1) (by omega)
      have H3 : Hid (St w3 g n false false true (inc U i (U i + 1)) C (inc E i (E i + 1))) := Lib.hid ((show St w2.drew g n false false true (inc U i (U i + 1)) C E from H2.out.keep (F := fun _ => False) (Touch.refl _ _).drew (fun _ _ _ h => h)).setE hO3 hM3)
      have T3 : Hid (Touch (fun k => g ≤ k ∧ k < g + wid true) w w3) := Lib.hid (T2.out.drew.trans ((onlyB_touch hO3).mono (fun k _ e => by subst e; rw [wid_true]; exact ⟨by omega, by omega⟩)))
      have r3 : w3.cell? ⟨R1, 0, none⟩ = some (.int .u32 0) := (hO3.cell (p := ⟨R1, 0, none⟩) (by simp; omega)).trans q0
      have r4 : w3.cell? ⟨R1, 1, none⟩ = some (.int .u32 i) := (hO3.cell (p := ⟨R1, 1, none⟩) (by simp; omega)).trans q1
      have d3 := H3.out.c32
      clear hM3 hO3
      go_region
      all_goals
        go_wp2
        go_end0
        exact ⟨rfl, H3.out, T3.out⟩

set_option maxRecDepth 100000 in
set_option maxHeartbeats 4000000 in
theorem t13_false_true_true_1 (w : World) (g n i : Nat) (U C E : Nat → Nat) (h : St w g n false true true U C E) (hi : i < n) (hn : n ≤ 4096) (hU : U i ≤ 1000000) (hE : E i ≤ 1000000) (hC : C i ≤ 1000000) (hU0 : 0 < U i) (hE0 : 0 < E i) (hE1 : E i = 1) :
    Calls Try.prog 13 #[.pointer (some ⟨g, 0, none⟩), .agg #[.int .u32 0, .int .u32 i]] w (UseP w g n false true true (inc U i (U i - 1)) C (inc E i (E i - 1))) := by
  have H := Lib.hid h
  have hsz := h.sz
  rw [wid_true] at hsz
  have hg : g < w.heap.size := by omega
  have hg1 : g + 1 < w.heap.size := by omega
  have hg2 : g + 2 < w.heap.size := by omega
  have c1 := h.c350
  have HT : Hid (Touch (fun k => g ≤ k ∧ k < g + wid true) w w) := Lib.hid (Touch.refl _ _)
  have c2 := h.c106
  have c3 := (h.colU.2 i hi).1
  have f3 := (h.colU.2 i hi).2
  simp only at c3 f3
  have t1 : (((E i : Int) - 1) == 0) = true := by rw [beq_iff_eq]; omega
  have hE2 : E i ≤ 1 := by omega
  have HE1 := Lib.hid hE1
  clear hE1
  clear h
  go_enter Try.func13, Try.ntmps13
  go_wp2
  go_region
  all_goals
    have H1 := Lib.hid (H.out.uI hi (x := (U i : Int) - 1) (y := U i - 1) (by omega) (.cells #[.int .u32 0, .int .u32 i] 155))
    have T1 : Hid (Touch (fun k => g ≤ k ∧ k < g + wid true) w (((w.setCell ⟨g + 1, i * 10 + 4, none⟩ (.int .u32 ((U i : Int) - 1))).alloc (.cells #[.int .u32 0, .int .u32 i] 155)).drew)) := Lib.hid ((HT.out.setCell _ (fun _ => ⟨by simp, by have := wid_ge true; simp; omega⟩) _).alloc _).drew
    have r0 : (((w.setCell ⟨g + 1, i * 10 + 4, none⟩ (.int .u32 ((U i : Int) - 1))).alloc (.cells #[.int .u32 0, .int .u32 i] 155)).drew).cell? ⟨w.heap.size, 0, none⟩ = some (.int .u32 0) := by go_simp
    have r1 : (((w.setCell ⟨g + 1, i * 10 + 4, none⟩ (.int .u32 ((U i : Int) - 1))).alloc (.cells #[.int .u32 0, .int .u32 i] 155)).drew).cell? ⟨w.heap.size, 1, none⟩ = some (.int .u32 i) := by go_simp
    have hs1 : (((w.setCell ⟨g + 1, i * 10 + 4, none⟩ (.int .u32 ((U i : Int) - 1))).alloc (.cells #[.int .u32 0, .int .u32 i] 155)).drew).heap.size = w.heap.size + 1 := by simp [heap_drew]
    clear c1 c2 c3 f3
    generalize (((w.setCell ⟨g + 1, i * 10 + 4, none⟩ (.int .u32 ((U i : Int) - 1))).alloc (.cells #[.int .u32 0, .int .u32 i] 155)).drew) = w1 at *
    have hR : w.heap.size < w1.heap.size := by omega
    have hgw : g + 5 ≤ w1.heap.size + 2 := by omega
    have c5 := H1.out.c105
    simp only [if_true] at c5
    clear hs1
    have hg4 : g + 4 < w1.heap.size := by omega
    have c6 := (H1.out.mp rfl).1
    have hl := (show MapE w1.drew (g + 3) n E from (H1.out.mp rfl).2).look hi
    have hl2 := (show MapE ((w1.alloc (.cells #[.int .u32 0] 178)).drew) (g + 3) n E from (H1.out.mp rfl).2.of_block (Below.heap_alloc _ _ _ (by omega))).look hi
    go_wp2
    go_region
    all_goals
      go_wp2
      have H2 : Hid (St ((w1.alloc (.cells #[.int .u32 ((E i : Int) - 1)] 178)).drew) g n false true true (inc U i (U i - 1)) C E) := Lib.hid (H1.out.keep (F := fun _ => False) ((Touch.refl _ _).alloc _).drew (fun _ _ _ h => h))
      have T2 : Hid (Touch (fun k => g ≤ k ∧ k < g + wid true) w ((w1.alloc (.cells #[.int .u32 ((E i : Int) - 1)] 178)).drew)) := Lib.hid (T1.out.alloc _).drew
      have u0 : ((w1.alloc (.cells #[.int .u32 ((E i : Int) - 1)] 178)).drew).cell? ⟨w1.heap.size, 0, none⟩ = some (.int .u32 ((E i : Int) - 1)) := by go_simp
      have q0 : ((w1.alloc (.cells #[.int .u32 ((E i : Int) - 1)] 178)).drew).cell? ⟨w.heap.size, 0, none⟩ = some (.int .u32 0) := by go_simp
      have q1 : ((w1.alloc (.cells #[.int .u32 ((E i : Int) - 1)] 178)).drew).cell? ⟨w.heap.size, 1, none⟩ = some (.int .u32 i) := by go_simp
      clear hl hl2 r0 r1 c5 c6 H1 T1
      generalize ((w1.alloc (.cells #[.int .u32 ((E i : Int) - 1)] 178)).drew) = w2 at *
      generalize w1.heap.size = R2 at *
      generalize hR1 : w.heap.size = R1 at *
      have HR1 := Lib.hid hR1
      clear hR1
      have d6 := (H2.out.mp rfl).1
      have d2 := H2.out.c32
      obtain ⟨w3, hdel0, hM3, hO3⟩ := MapE.drop (w := w2.drew) (H2.out.mp rfl).2 hi
      have H3 : Hid (St w3 g n false true true (inc U i (U i - 1)) C (inc E i (E i - 1))) := Lib.hid ((show St w2.drew g n false true true (inc U i (U i - 1)) C E from H2.out.keep (F := fun _ => False) (Touch.refl _ _).drew (fun _ _ _ h => h)).setE hO3 (by rw [HE1.out]; exact hM3))
      have T3 : Hid (Touch (fun k => g ≤ k ∧ k < g + wid true) w w3) := Lib.hid (T2.out.drew.trans ((onlyB_touch hO3).mono (fun k _ e => by subst e; rw [wid_true]; exact ⟨by omega, by omega⟩)))
      have hdel := hdel0 155 0
      clear hM3 hO3 hdel0
      go_region
      all_goals
        go_wp2
        go_end0
        exact ⟨rfl, H3.out, T3.out⟩

set_option maxRecDepth 100000 in
set_option maxHeartbeats 4000000 in
theorem t13_false_true_true_0 (w : World) (g n i : Nat) (U C E : Nat → Nat) (h : St w g n false true true U C E) (hi : i < n) (hn : n ≤ 4096) (hU : U i ≤ 1000000) (hE : E i ≤ 1000000) (hC : C i ≤ 1000000) (hU0 : 0 < U i) (hE0 : 0 < E i) (hE1 : E i ≠ 1) :
    Calls Try.prog 13 #[.pointer (some ⟨g, 0, none⟩), .agg #[.int .u32 0, .int .u32 i]] w (UseP w g n false true true (inc U i (U i - 1)) C (inc E i (E i - 1))) := by
  have H := Lib.hid h
  have hsz := h.sz
  rw [wid_true] at hsz
  have hg : g < w.heap.size := by omega
  have hg1 : g + 1 < w.heap.size := by omega
  have hg2 : g + 2 < w.heap.size := by omega
  have c1 := h.c350
  have HT : Hid (Touch (fun k => g ≤ k ∧ k < g + wid true) w w) := Lib.hid (Touch.refl _ _)
  have c2 := h.c106
  have c3 := (h.colU.2 i hi).1
  have f3 := (h.colU.2 i hi).2
  simp only at c3 f3
  have t1 : (((E i : Int) - 1) == 0) = false := by rw [beq_eq_false_iff_ne]; omega
  have hE2 : 2 ≤ E i := by omega
  have HE1 := Lib.hid hE1
  clear hE1
  clear h
  go_enter Try.func13, Try.ntmps13
  go_wp2
  go_region
  all_goals
    have H1 := Lib.hid (H.out.uI hi (x := (U i : Int) - 1) (y := U i - 1) (by omega) (.cells #[.int .u32 0, .int .u32 i] 155))
    have T1 : Hid (Touch (fun k => g ≤ k ∧ k < g + wid true) w (((w.setCell ⟨g + 1, i * 10 + 4, none⟩ (.int .u32 ((U i : Int) - 1))).alloc (.cells #[.int .u32 0, .int .u32 i] 155)).drew)) := Lib.hid ((HT.out.setCell _ (fun _ => ⟨by simp, by have := wid_ge true; simp; omega⟩) _).alloc _).drew
    have r0 : (((w.setCell ⟨g + 1, i * 10 + 4, none⟩ (.int .u32 ((U i : Int) - 1))).alloc (.cells #[.int .u32 0, .int .u32 i] 155)).drew).cell? ⟨w.heap.size, 0, none⟩ = some (.int .u32 0) := by go_simp
    have r1 : (((w.setCell ⟨g + 1, i * 10 + 4, none⟩ (.int .u32 ((U i : Int) - 1))).alloc (.cells #[.int .u32 0, .int .u32 i] 155)).drew).cell? ⟨w.heap.size, 1, none⟩ = some (.int .u32 i) := by go_simp
    have hs1 : (((w.setCell ⟨g + 1, i * 10 + 4, none⟩ (.int .u32 ((U i : Int) - 1))).alloc (.cells #[.int .u32 0, .int .u32 i] 155)).drew).heap.size = w.heap.size + 1 := by simp [heap_drew]
    clear c1 c2 c3 f3
    generalize (((w.setCell ⟨g + 1, i * 10 + 4, none⟩ (.int .u32 ((U i : Int) - 1))).alloc (.cells #[.int .u32 0, .int .u32 i] 155)).drew) = w1 at *
    have hR : w.heap.size < w1.heap.size := by omega
    have hgw : g + 5 ≤ w1.heap.size + 2 := by omega
    have c5 := H1.out.c105
    simp only [if_true] at c5
    clear hs1
    have hg4 : g + 4 < w1.heap.size := by omega
    have c6 := (H1.out.mp rfl).1
    have hl := (show MapE w1.drew (g + 3) n E from (H1.out.mp rfl).2).look hi
    have hl2 := (show MapE ((w1.alloc (.cells #[.int .u32 0] 178)).drew) (g + 3) n E from (H1.out.mp rfl).2.of_block (Below.heap_alloc _ _ _ (by omega))).look hi
    go_wp2
    go_region
    all_goals
      go_wp2
      have H2 : Hid (St ((w1.alloc (.cells #[.int .u32 ((E i : Int) - 1)] 178)).drew) g n false true true (inc U i (U i - 1)) C E) := Lib.hid (H1.out.keep (F := fun _ => False) ((Touch.refl _ _).alloc _).drew (fun _ _ _ h => h))
      have T2 : Hid (Touch (fun k => g ≤ k ∧ k < g + wid true) w ((w1.alloc (.cells #[.int .u32 ((E i : Int) - 1)] 178)).drew)) := Lib.hid (T1.out.alloc _).drew
      have u0 : ((w1.alloc (.cells #[.int .u32 ((E i : Int) - 1)] 178)).drew).cell? ⟨w1.heap.size, 0, none⟩ = some (.int .u32 ((E i : Int) - 1)) := by go_simp
      have q0 : ((w1.alloc (.cells #[.int .u32 ((E i : Int) - 1)] 178)).drew).cell? ⟨w.heap.size, 0, none⟩ = some (.int .u32 0) := by go_simp
      have q1 : ((w1.alloc (.cells #[.int .u32 ((E i : Int) - 1)] 178)).drew).cell? ⟨w.heap.size, 1, none⟩ = some (.int .u32 i) := by go_simp
      clear hl hl2 r0 r1 c5 c6 H1 T1
      generalize ((w1.alloc (.cells #[.int .u32 ((E i : Int) - 1)] 178)).drew) = w2 at *
      generalize w1.heap.size = R2 at *
      generalize hR1 : w.heap.size = R1 at *
      have HR1 := Lib.hid hR1
      clear hR1
      have d6 := (H2.out.mp rfl).1
      have d2 := H2.out.c32
      obtain ⟨w3, hup, hM3, hO3⟩ := MapE.put (w := w2.drew) (H2.out.mp rfl).2 hi (x := E i - 1) (by omega) (z := (E i : Int) - 1) (by omega)
      have H3 : Hid (St w3 g n false true true (inc U i (U i - 1)) C (inc E i (E i - 1))) := Lib.hid ((show St w2.drew g n false true true (inc U i (U i - 1)) C E from H2.out.keep (F := fun _ => False) (Touch.refl _ _).drew (fun _ _ _ h => h)).setE hO3 hM3)
      have T3 : Hid (Touch (fun k => g ≤ k ∧ k < g + wid true) w w3) := Lib.hid (T2.out.drew.trans ((onlyB_touch hO3).mono (fun k _ e => by subst e; rw [wid_true]; exact ⟨by omega, by omega⟩)))
      have r3 : w3.cell? ⟨R1, 0, none⟩ = some (.int .u32 0) := (hO3.cell (p := ⟨R1, 0, none⟩) (by simp; omega)).trans q0
      have r4 : w3.cell? ⟨R1, 1, none⟩ = some (.int .u32 i) := (hO3.cell (p := ⟨R1, 1, none⟩) (by simp; omega)).trans q1
      have d3 := H3.out.c32
      clear hM3 hO3
      go_region
      all_goals
        go_wp2
        go_end0
        exact ⟨rfl, H3.out, T3.out⟩

set_option maxRecDepth 100000 in
set_option maxHeartbeats 4000000 in
theorem t13_false_true_false_1 (w : World) (g n i : Nat) (U C E : Nat → Nat) (h : St w g n false false true U C E) (hi : i < n) (hn : n ≤ 4096) (hU : U i ≤ 1000000) (hE : E i ≤ 1000000) (hC : C i ≤ 1000000) (hU0 : 0 < U i) (hE0 : 0 < E i) (hE1 : E i = 1) :
    Calls Try.prog 13 #[.pointer (some ⟨g, 0, none⟩), .agg #[.int .u32 0, .int .u32 i]] w (UseP w g n false false true (inc U i (U i - 1)) C (inc E i (E i - 1))) := by
  have H := Lib.hid h
  have hsz := h.sz
  rw [wid_true] at hsz
  have hg : g < w.heap.size := by omega
  have hg1 : g + 1 < w.heap.size := by omega
  have hg2 : g + 2 < w.heap.size := by omega
  have c1 := h.c350
  have HT : Hid (Touch (fun k => g ≤ k ∧ k < g + wid true) w w) := Lib.hid (Touch.refl _ _)
  have c2 := h.c106
  have c3 := (h.colU.2 i hi).1
  have f3 := (h.colU.2 i hi).2
  simp only at c3 f3
  have t1 : (((E i : Int) - 1) == 0) = true := by rw [beq_iff_eq]; omega
  have hE2 : E i ≤ 1 := by omega
  have HE1 := Lib.hid hE1
  clear hE1
  clear h
  go_enter Try.func13, Try.ntmps13
  go_wp2
  go_region
  all_goals
    have H1 := Lib.hid (H.out.uI hi (x := (U i : Int) - 1) (y := U i - 1) (by omega) (.cells #[.int .u32 0, .int .u32 i] 155))
    have T1 : Hid (Touch (fun k => g ≤ k ∧ k < g + wid true) w (((w.setCell ⟨g + 1, i * 10 + 4, none⟩ (.int .u32 ((U i : Int) - 1))).alloc (.cells #[.int .u32 0, .int .u32 i] 155)).drew)) := Lib.hid ((HT.out.setCell _ (fun _ => ⟨by simp, by have := wid_ge true; simp; omega⟩) _).alloc _).drew
    have r0 : (((w.setCell ⟨g + 1, i * 10 + 4, none⟩ (.int .u32 ((U i : Int) - 1))).alloc (.cells #[.int .u32 0, .int .u32 i] 155)).drew).cell? ⟨w.heap.size, 0, none⟩ = some (.int .u32 0) := by go_simp
    have r1 : (((w.setCell ⟨g + 1, i * 10 + 4, none⟩ (.int .u32 ((U i : Int) - 1))).alloc (.cells #[.int .u32 0, .int .u32 i] 155)).drew).cell? ⟨w.heap.size, 1, none⟩ = some (.int .u32 i) := by go_simp
    have hs1 : (((w.setCell ⟨g + 1, i * 10 + 4, none⟩ (.int .u32 ((U i : Int) - 1))).alloc (.cells #[.int .u32 0, .int .u32 i] 155)).drew).heap.size = w.heap.size + 1 := by simp [heap_drew]
    clear c1 c2 c3 f3
    generalize (((w.setCell ⟨g + 1, i * 10 + 4, none⟩ (.int .u32 ((U i : Int) - 1))).alloc (.cells #[.int .u32 0, .int .u32 i] 155)).drew) = w1 at *
    have hR : w.heap.size < w1.heap.size := by omega
    have hgw : g + 5 ≤ w1.heap.size + 2 := by omega
    have c5 := H1.out.c105
    simp only [if_true] at c5
    clear hs1
    have hg4 : g + 4 < w1.heap.size := by omega
    have c6 := (H1.out.mp rfl).1
    have hl := (show MapE w1.drew (g + 3) n E from (H1.out.mp rfl).2).look hi
    have hl2 := (show MapE ((w1.alloc (.cells #[.int .u32 0] 178)).drew) (g + 3) n E from (H1.out.mp rfl).2.of_block (Below.heap_alloc _ _ _ (by omega))).look hi
    go_wp2
    go_region
    all_goals
      go_wp2
      have H2 : Hid (St ((w1.alloc (.cells #[.int .u32 ((E i : Int) - 1)] 178)).drew) g n false false true (inc U i (U i - 1)) C E) := Lib.hid (H1.out.keep (F := fun _ => False) ((Touch.refl _ _).alloc _).drew (fun _ _ _ h => h))
      have T2 : Hid (Touch (fun k => g ≤ k ∧ k < g + wid true) w ((w1.alloc (.cells #[.int .u32 ((E i : Int) - 1)] 178)).drew)) := Lib.hid (T1.out.alloc _).drew
      have u0 : ((w1.alloc (.cells #[.int .u32 ((E i : Int) - 1)] 178)).drew).cell? ⟨w1.heap.size, 0, none⟩ = some (.int .u32 ((E i : Int) - 1)) := by go_simp
      have q0 : ((w1.alloc (.cells #[.int .u32 ((E i : Int) - 1)] 178)).drew).cell? ⟨w.heap.size, 0, none⟩ = some (.int .u32 0) := by go_simp
      have q1 : ((w1.alloc (.cells #[.int .u32 ((E i : Int) - 1)] 178)).drew).cell? ⟨w.heap.size, 1, none⟩ = some (.int .u32 i) := by go_simp
      clear hl hl2 r0 r1 c5 c6 H1 T1
      generalize ((w1.alloc (.cells #[.int .u32 ((E i : Int) - 1)] 178)).drew) = w2 at *
      generalize w1.heap.size = R2 at *
      generalize hR1 : w.heap.size = R1 at *
      have HR1 := Lib.hid hR1
      clear hR1
      have d6 := (H2.out.mp rfl).1
      have d2 := H2.out.c32
      obtain ⟨w3, hdel0, hM3, hO3⟩ := MapE.drop (w := w2.drew) (H2.out.mp rfl).2 hi
      have H3 : Hid (St w3 g n false false true (inc U i (U i - 1)) C (inc E i (E i - 1))) := Lib.hid ((show St w2.drew g n false false true (inc U i (U i - 1)) C E from H2.out.keep (F := fun _ => False) (Touch.refl _ _).drew (fun _ _ _ h => h)).setE hO3 (by rw [HE1.out]; exact hM3))
      have T3 : Hid (Touch (fun k => g ≤ k ∧ k < g + wid true) w w3) := Lib.hid (T2.out.drew.trans ((onlyB_touch hO3).mono (fun k _ e => by subst e; rw [wid_true]; exact ⟨by omega, by omega⟩)))
      have hdel := hdel0 155 0
      clear hM3 hO3 hdel0
      go_region
      all_goals
        go_wp2
        go_end0
        exact ⟨rfl, H3.out, T3.out⟩

set_option maxRecDepth 100000 in
set_option maxHeartbeats 4000000 in
theorem t13_false_true_false_0 (w : World) (g n i : Nat) (U C E : Nat → Nat) (h : St w g n false false true U C E) (hi : i < n) (hn : n ≤ 4096) (hU : U i ≤ 1000000) (hE : E i ≤ 1000000) (hC : C i ≤ 1000000) (hU0 : 0 < U i) (hE0 : 0 < E i) (hE1 : E i ≠ 1) :
    Calls Try.prog 13 #[.pointer (some ⟨g, 0, none⟩), .agg #[.int .u32 0, .int .u32 i]] w (UseP w g n false false true (inc U i (U i - 1)) C (inc E i (E i - 1))) := by
  have H := Lib.hid h
  have hsz := h.sz
  rw [wid_true] at hsz
  have hg : g < w.heap.size := by omega
  have hg1 : g + 1 < w.heap.size := by omega
  have hg2 : g + 2 < w.heap.size := by omega
  have c1 := h.c350
  have HT : Hid (Touch (fun k => g ≤ k ∧ k < g + wid true) w w) := Lib.hid (Touch.refl _ _)
  have c2 := h.c106
  have c3 := (h.colU.2 i hi).1
  have f3 := (h.colU.2 i hi).2
  simp only at c3 f3
  have t1 : (((E i : Int) - 1) == 0) = false := by rw [beq_eq_false_iff_ne]; omega
  have hE2 : 2 ≤ E i := by omega
  have HE1 := Lib.hid hE1
  clear hE1
  clear h
  go_enter Try.func13, Try.ntmps13
  go_wp2
  go_region
  all_goals
    have H1 := Lib.hid (H.out.uI hi (x := (U i : Int) - 1) (y := U i - 1) (by omega) (.cells #[.int .u32 0, .int .u32 i] 155))
    have T1 : Hid (Touch (fun k => g ≤ k ∧ k < g + wid true) w (((w.setCell ⟨g + 1, i * 10 + 4, none⟩ (.int .u32 ((U i : Int) - 1))).alloc (.cells #[.int .u32 0, .int .u32 i] 155)).drew)) := Lib.hid ((HT.out.setCell _ (fun _ => ⟨by simp, by have := wid_ge true; simp; omega⟩) _).alloc _).drew
    have r0 : (((w.setCell ⟨g + 1, i * 10 + 4, none⟩ (.int .u32 ((U i : Int) - 1))).alloc (.cells #[.int .u32 0, .int .u32 i] 155)).drew).cell? ⟨w.heap.size, 0, none⟩ = some (.int .u32 0) := by go_simp
    have r1 : (((w.setCell ⟨g + 1, i * 10 + 4, none⟩ (.int .u32 ((U i : Int) - 1))).alloc (.cells #[.int .u32 0, .int .u32 i] 155)).drew).cell? ⟨w.heap.size, 1, none⟩ = some (.int .u32 i) := by go_simp
    have hs1 : (((w.setCell ⟨g + 1, i * 10 + 4, none⟩ (.int .u32 ((U i : Int) - 1))).alloc (.cells #[.int .u32 0, .int .u32 i] 155)).drew).heap.size = w.heap.size + 1 := by simp [heap_drew]
    clear c1 c2 c3 f3
    generalize (((w.setCell ⟨g + 1, i * 10 + 4, none⟩ (.int .u32 ((U i : Int) - 1))).alloc (.cells #[.int .u32 0, .int .u32 i] 155)).drew) = w1 at *
    have hR : w.heap.size < w1.heap.size := by omega
    have hgw : g + 5 ≤ w1.heap.size + 2 := by omega
    have c5 := H1.out.c105
    simp only [if_true] at c5
    clear hs1
    have hg4 : g + 4 < w1.heap.size := by omega
    have c6 := (H1.out.mp rfl).1
    have hl := (show MapE w1.drew (g + 3) n E from (H1.out.mp rfl).2).look hi
    have hl2 := (show MapE ((w1.alloc (.cells #[.int .u32 0] 178)).drew) (g + 3) n E from (H1.out.mp rfl).2.of_block (Below.heap_alloc _ _ _ (by omega))).look hi
    go_wp2
    go_region
    all_goals
      go_wp2
      have H2 : Hid (St ((w1.alloc (.cells #[.int .u32 ((E i : Int) - 1)] 178)).drew) g n false false true (inc U i (U i - 1)) C E) := Lib.hid (H1.out.keep (F := fun _ => False) ((Touch.refl _ _).alloc _).drew (fun _ _ _ h => h))
      have T2 : Hid (Touch (fun k => g ≤ k ∧ k < g + wid true) w ((w1.alloc (.cells #[.int .u32 ((E i : Int) - 1)] 178)).drew)) := Lib.hid (T1.out.alloc _).drew
      have u0 : ((w1.alloc (.cells #[.int .u32 ((E i : Int) - 1)] 178)).drew).cell? ⟨w1.heap.size, 0, none⟩ = some (.int .u32 ((E i : Int) - 1)) := by go_simp
      have q0 : ((w1.alloc (.cells #[.int .u32 ((E i : Int) - 1)] 178)).drew).cell? ⟨w.heap.size, 0, none⟩ = some (.int .u32 0) := by go_simp
      have q1 : ((w1.alloc (.cells #[.int .u32 ((E i : Int) - 1)] 178)).drew).cell? ⟨w.heap.size, 1, none⟩ = some (.int .u32 i) := by go_simp
      clear hl hl2 r0 r1 c5 c6 H1 T1
      generalize ((w1.alloc (.cells #[.int .u32 ((E i : Int) - 1)] 178)).drew) = w2 at *
      generalize w1.heap.size = R2 at *
      generalize hR1 : w.heap.size = R1 at *
      have HR1 := Lib.hid hR1
      clear hR1
      have d6 := (H2.out.mp rfl).1
      have d2 := H2.out.c32
      obtain ⟨w3, hup, hM3, hO3⟩ := MapE.put (w := w2.drew) (H2.out.mp rfl).2 hi (x := E i - 1) (by omega) (z := (E i : Int) - 1) (by omega)
      have H3 : Hid (St w3 g n false false true (inc U i (U i - 1)) C (inc E i (E i - 1))) := Lib.hid ((show St w2.drew g n false false true (inc U i (U i - 1)) C E from H2.out.keep (F := fun _ => False) (Touch.refl _ _).drew (fun _ _ _ h => h)).setE hO3 hM3)
      have T3 : Hid (Touch (fun k => g ≤ k ∧ k < g + wid true) w w3) := Lib.hid (T2.out.drew.trans ((onlyB_touch hO3).mono (fun k _ e => by subst e; rw [wid_true]; exact ⟨by omega, by omega⟩)))
      have r3 : w3.cell? ⟨R1, 0, none⟩ = some (.int .u32 0) := (hO3.cell (p := ⟨R1, 0, none⟩) (by simp; omega)).trans q0
      have r4 : w3.cell? ⟨R1, 1, none⟩ = some (.int .u32 i) := (hO3.cell (p := ⟨R1, 1, none⟩) (by simp; omega)).trans q1
      have d3 := H3.out.c32
      clear hM3 hO3
      go_region
      all_goals
        go_wp2
        go_end0
        exact ⟨rfl, H3.out, T3.out⟩

set_option maxRecDepth 100000 in
set_option maxHeartbeats 4000000 in
theorem t12_false_false_true (w : World) (g n i : Nat) (U C E : Nat → Nat) (h : St w g n false true false U C E) (hi : i < n) (hn : n ≤ 4096) (hU : U i ≤ 1000000) (hE : E i ≤ 1000000) (hC : C i ≤ 1000000) :
    Calls Try.prog 12 #[.pointer (some ⟨g, 0, none⟩), .agg #[.int .u32 0, .int .u32 i]] w (UseP w g n false true false (inc U i (U i + 1)) (inc C i (C i + 1)) E) := by
  have H := Lib.hid h
  have hsz := h.sz
  rw [wid_false] at hsz
  have hg : g < w.heap.size := by omega
  have hg1 : g + 1 < w.heap.size := by omega
  have hg2 : g + 2 < w.heap.size := by omega
  have c1 := h.c350
  have HT : Hid (Touch (fun k => g ≤ k ∧ k < g + wid false) w w) := Lib.hid (Touch.refl _ _)
  have c2 := h.c106
  have c3 := (h.colU.2 i hi).1
  have f3 := (h.colU.2 i hi).2
  simp only at c3 f3
  clear h
  go_enter Try.func12, Try.ntmps12
  go_wp2
  go_region
  all_goals
    have H1 := Lib.hid (H.out.uI hi (x := (U i : Int) + 1) (y := U i + 1) (by omega) (.cells #[.int .u32 0, .int .u32 i] 155))
    have T1 : Hid (Touch (fun k => g ≤ k ∧ k < g + wid false) w (((w.setCell ⟨g + 1, i * 10 + 4, none⟩ (.int .u32 ((U i : Int) + 1))).alloc (.cells #[.int .u32 0, .int .u32 i] 155)).drew)) := Lib.hid ((HT.out.setCell _ (fun _ => ⟨by simp, by have := wid_ge false; simp; omega⟩) _).alloc _).drew
    have r0 : (((w.setCell ⟨g + 1, i * 10 + 4, none⟩ (.int .u32 ((U i : Int) + 1))).alloc (.cells #[.int .u32 0, .int .u32 i] 155)).drew).cell? ⟨w.heap.size, 0, none⟩ = some (.int .u32 0) := by go_simp
    have r1 : (((w.setCell ⟨g + 1, i * 10 + 4, none⟩ (.int .u32 ((U i : Int) + 1))).alloc (.cells #[.int .u32 0, .int .u32 i] 155)).drew).cell? ⟨w.heap.size, 1, none⟩ = some (.int .u32 i) := by go_simp
    have hs1 : (((w.setCell ⟨g + 1, i * 10 + 4, none⟩ (.int .u32 ((U i : Int) + 1))).alloc (.cells #[.int .u32 0, .int .u32 i] 155)).drew).heap.size = w.heap.size + 1 := by simp [heap_drew]
    clear c1 c2 c3 f3
    generalize (((w.setCell ⟨g + 1, i * 10 + 4, none⟩ (.int .u32 ((U i : Int) + 1))).alloc (.cells #[.int .u32 0, .int .u32 i] 155)).drew) = w1 at *
    have hR : w.heap.size < w1.heap.size := by omega
    have hgw : g + 5 ≤ w1.heap.size + 2 := by omega
    have c5 := H1.out.c105
    simp only [Bool.false_eq_true, if_false] at c5
    clear hs1
    have H2 := H1
    have T2 := T1
    have d2 := H1.out.c32
    clear H1 T1
    have d8 := H2.out.c108
    have e8 := (H2.out.colC.2 i hi).1
    have e9 := (H2.out.colC.2 i hi).2
    simp only at e8 e9
    go_wp2
    go_region
    all_goals
      go_wp2
      go_end0
      exact ⟨rfl, H2.out.cI hi (by omega), (T2.out.setCell _ (fun _ => ⟨by simp, by have := wid_ge false; simp; omega⟩) _).drew⟩

set_option maxRecDepth 100000 in
set_option maxHeartbeats 4000000 in
theorem t12_false_false_false (w : World) (g n i : Nat) (U C E : Nat → Nat) (h : St w g n false false false U C E) (hi : i < n) (hn : n ≤ 4096) (hU : U i ≤ 1000000) (hE : E i ≤ 1000000) (hC : C i ≤ 1000000) :
    Calls Try.prog 12 #[.pointer (some ⟨g, 0, none⟩), .agg #[.int .u32 0, .int .u32 i]] w (UseP w g n false false false (inc U i (U i + 1)) C E) := by
  have H := Lib.hid h
  have hsz := h.sz
  rw [wid_false] at hsz
  have hg : g < w.heap.size := by omega
  have hg1 : g + 1 < w.heap.size := by omega
  have hg2 : g + 2 < w.heap.size := by omega
  have c1 := h.c350
  have HT : Hid (Touch (fun k => g ≤ k ∧ k < g + wid false) w w) := Lib.hid (Touch.refl _ _)
  have c2 := h.c106
  have c3 := (h.colU.2 i hi).1
  have f3 := (h.colU.2 i hi).2
  simp only at c3 f3
  clear h
  go_enter Try.func12, Try.ntmps12
  go_wp2
  go_region
  all_goals
    have H1 := Lib.hid (H.out.uI hi (x := (U i : Int) + 1) (y := U i + 1) (by omega) (.cells #[.int .u32 0, .int .u32 i] 155))
    have T1 : Hid (Touch (fun k => g ≤ k ∧ k < g + wid false) w (((w.setCell ⟨g + 1, i * 10 + 4, none⟩ (.int .u32 ((U i : Int) + 1))).alloc (.cells #[.int .u32 0, .int .u32 i] 155)).drew)) := Lib.hid ((HT.out.setCell _ (fun _ => ⟨by simp, by have := wid_ge false; simp; omega⟩) _).alloc _).drew
    have r0 : (((w.setCell ⟨g + 1, i * 10 + 4, none⟩ (.int .u32 ((U i : Int) + 1))).alloc (.cells #[.int .u32 0, .int .u32 i] 155)).drew).cell? ⟨w.heap.size, 0, none⟩ = some (.int .u32 0) := by go_simp
    have r1 : (((w.setCell ⟨g + 1, i * 10 + 4, none⟩ (.int .u32 ((U i : Int) + 1))).alloc (.cells #[.int .u32 0, .int .u32 i] 155)).drew).cell? ⟨w.heap.size, 1, none⟩ = some (.int .u32 i) := by go_simp
    have hs1 : (((w.setCell ⟨g + 1, i * 10 + 4, none⟩ (.int .u32 ((U i : Int) + 1))).alloc (.cells #[.int .u32 0, .int .u32 i] 155)).drew).heap.size = w.heap.size + 1 := by simp [heap_drew]
    clear c1 c2 c3 f3
    generalize (((w.setCell ⟨g + 1, i * 10 + 4, none⟩ (.int .u32 ((U i : Int) + 1))).alloc (.cells #[.int .u32 0, .int .u32 i] 155)).drew) = w1 at *
    have hR : w.heap.size < w1.heap.size := by omega
    have hgw : g + 5 ≤ w1.heap.size + 2 := by omega
    have c5 := H1.out.c105
    simp only [Bool.false_eq_true, if_false] at c5
    clear hs1
    have H2 := H1
    have T2 := T1
    have d2 := H1.out.c32
    clear H1 T1
    go_wp2
    go_end0
    exact ⟨rfl, H2.out, T2.out⟩

set_option maxRecDepth 100000 in
set_option maxHeartbeats 4000000 in
theorem t13_false_false_true (w : World) (g n i : Nat) (U C E : Nat → Nat) (h : St w g n false true false U C E) (hi : i < n) (hn : n ≤ 4096) (hU : U i ≤ 1000000) (hE : E i ≤ 1000000) (hC : C i ≤ 1000000) (hU0 : 0 < U i) :
    Calls Try.prog 13 #[.pointer (some ⟨g, 0, none⟩), .agg #[.int .u32 0, .int .u32 i]] w (UseP w g n false true false (inc U i (U i - 1)) C E) := by
  have H := Lib.hid h
  have hsz := h.sz
  rw [wid_false] at hsz
  have hg : g < w.heap.size := by omega
  have hg1 : g + 1 < w.heap.size := by omega
  have hg2 : g + 2 < w.heap.size := by omega
  have c1 := h.c350
  have HT : Hid (Touch (fun k => g ≤ k ∧ k < g + wid false) w w) := Lib.hid (Touch.refl _ _)
  have c2 := h.c106
  have c3 := (h.colU.2 i hi).1
  have f3 := (h.colU.2 i hi).2
  simp only at c3 f3
  clear h
  go_enter Try.func13, Try.ntmps13
  go_wp2
  go_region
  all_goals
    have H1 := Lib.hid (H.out.uI hi (x := (U i : Int) - 1) (y := U i - 1) (by omega) (.cells #[.int .u32 0, .int .u32 i] 155))
    have T1 : Hid (Touch (fun k => g ≤ k ∧ k < g + wid false) w (((w.setCell ⟨g + 1, i * 10 + 4, none⟩ (.int .u32 ((U i : Int) - 1))).alloc (.cells #[.int .u32 0, .int .u32 i] 155)).drew)) := Lib.hid ((HT.out.setCell _ (fun _ => ⟨by simp, by have := wid_ge false; simp; omega⟩) _).alloc _).drew
    have r0 : (((w.setCell ⟨g + 1, i * 10 + 4, none⟩ (.int .u32 ((U i : Int) - 1))).alloc (.cells #[.int .u32 0, .int .u32 i] 155)).drew).cell? ⟨w.heap.size, 0, none⟩ = some (.int .u32 0) := by go_simp
    have r1 : (((w.setCell ⟨g + 1, i * 10 + 4, none⟩ (.int .u32 ((U i : Int) - 1))).alloc (.cells #[.int .u32 0, .int .u32 i] 155)).drew).cell? ⟨w.heap.size, 1, none⟩ = some (.int .u32 i) := by go_simp
    have hs1 : (((w.setCell ⟨g + 1, i * 10 + 4, none⟩ (.int .u32 ((U i : Int) - 1))).alloc (.cells #[.int .u32 0, .int .u32 i] 155)).drew).heap.size = w.heap.size + 1 := by simp [heap_drew]
    clear c1 c2 c3 f3
    generalize (((w.setCell ⟨g + 1, i * 10 + 4, none⟩ (.int .u32 ((U i : Int) - 1))).alloc (.cells #[.int .u32 0, .int .u32 i] 155)).drew) = w1 at *
    have hR : w.heap.size < w1.heap.size := by omega
    have hgw : g + 5 ≤ w1.heap.size + 2 := by omega
    have c5 := H1.out.c105
    simp only [Bool.false_eq_true, if_false] at c5
    clear hs1
    have H2 := H1
    have T2 := T1
    have d2 := H1.out.c32
    clear H1 T1
    go_wp2
    go_end0
    exact ⟨rfl, H2.out, T2.out⟩

set_option maxRecDepth 100000 in
set_option maxHeartbeats 4000000 in
theorem t13_false_false_false (w : World) (g n i : Nat) (U C E : Nat → Nat) (h : St w g n false false false U C E) (hi : i < n) (hn : n ≤ 4096) (hU : U i ≤ 1000000) (hE : E i ≤ 1000000) (hC : C i ≤ 1000000) (hU0 : 0 < U i) :
    Calls Try.prog 13 #[.pointer (some ⟨g, 0, none⟩), .agg #[.int .u32 0, .int .u32 i]] w (UseP w g n false false false (inc U i (U i - 1)) C E) := by
  have H := Lib.hid h
  have hsz := h.sz
  rw [wid_false] at hsz
  have hg : g < w.heap.size := by omega
  have hg1 : g + 1 < w.heap.size := by omega
  have hg2 : g + 2 < w.heap.size := by omega
  have c1 := h.c350
  have HT : Hid (Touch (fun k => g ≤ k ∧ k < g + wid false) w w) := Lib.hid (Touch.refl _ _)
  have c2 := h.c106
  have c3 := (h.colU.2 i hi).1
  have f3 := (h.colU.2 i hi).2
  simp only at c3 f3
  clear h
  go_enter Try.func13, Try.ntmps13
  go_wp2
  go_region
  all_goals
    have H1 := Lib.hid (H.out.uI hi (x := (U i : Int) - 1) (y := U i - 1) (by omega) (.cells #[.int .u32 0, .int .u32 i] 155))
    have T1 : Hid (Touch (fun k => g ≤ k ∧ k < g + wid false) w (((w.setCell ⟨g + 1, i * 10 + 4, none⟩ (.int .u32 ((U i : Int) - 1))).alloc (.cells #[.int .u32 0, .int .u32 i] 155)).drew)) := Lib.hid ((HT.out.setCell _ (fun _ => ⟨by simp, by have := wid_ge false; simp; omega⟩) _).alloc _).drew
    have r0 : (((w.setCell ⟨g + 1, i * 10 + 4, none⟩ (.int .u32 ((U i : Int) - 1))).alloc (.cells #[.int .u32 0, .int .u32 i] 155)).drew).cell? ⟨w.heap.size, 0, none⟩ = some (.int .u32 0) := by go_simp
    have r1 : (((w.setCell ⟨g + 1, i * 10 + 4, none⟩ (.int .u32 ((U i : Int) - 1))).alloc (.cells #[.int .u32 0, .int .u32 i] 155)).drew).cell? ⟨w.heap.size, 1, none⟩ = some (.int .u32 i) := by go_simp
    have hs1 : (((w.setCell ⟨g + 1, i * 10 + 4, none⟩ (.int .u32 ((U i : Int) - 1))).alloc (.cells #[.int .u32 0, .int .u32 i] 155)).drew).heap.size = w.heap.size + 1 := by simp [heap_drew]
    clear c1 c2 c3 f3
    generalize (((w.setCell ⟨g + 1, i * 10 + 4, none⟩ (.int .u32 ((U i : Int) - 1))).alloc (.cells #[.int .u32 0, .int .u32 i] 155)).drew) = w1 at *
    have hR : w.heap.size < w1.heap.size := by omega
    have hgw : g + 5 ≤ w1.heap.size + 2 := by omega
    have c5 := H1.out.c105
    simp only [Bool.false_eq_true, if_false] at c5
    clear hs1
    have H2 := H1
    have T2 := T1
    have d2 := H1.out.c32
    clear H1 T1
    go_wp2
    go_end0
    exact ⟨rfl, H2.out, T2.out⟩

set_option maxRecDepth 100000 in
set_option maxHeartbeats 4000000 in
theorem t12_true_true_true (w : World) (g n i : Nat) (U C E : Nat → Nat) (h : St w g n true true true U C E) (hi : i < n) (hn : n ≤ 4096) (hU : U i ≤ 1000000) (hE : E i ≤ 1000000) (hC : C i ≤ 1000000) :
    Calls Try.prog 12 #[.pointer (some ⟨g, 0, none⟩), .agg #[.int .u32 0, .int .u32 i]] w (UseP w g n true true true U (inc C i (C i + 1)) E) := by
  have H := Lib.hid h
  have hsz := h.sz
  rw [wid_true] at hsz
  have hg : g < w.heap.size := by omega
  have hg1 : g + 1 < w.heap.size := by omega
  have hg2 : g + 2 < w.heap.size := by omega
  have c1 := h.c350
  have HT : Hid (Touch (fun k => g ≤ k ∧ k < g + wid true) w w) := Lib.hid (Touch.refl _ _)
  have c2 := h.c32
  have d8 := H.out.c108
  have e8 := (H.out.colC.2 i hi).1
  have e9 := (H.out.colC.2 i hi).2
  simp only at e8 e9
  clear h
  go_enter Try.func12, Try.ntmps12
  go_wp2
  go_region
  all_goals
    go_wp2
    go_end0
    exact ⟨rfl, H.out.cA hi (by omega) _, ((HT.out.setCell _ (fun _ => ⟨by simp, by have := wid_ge true; simp; omega⟩) _).alloc _).drew⟩

set_option maxRecDepth 100000 in
set_option maxHeartbeats 4000000 in
theorem t12_true_false_true (w : World) (g n i : Nat) (U C E : Nat → Nat) (h : St w g n true true false U C E) (hi : i < n) (hn : n ≤ 4096) (hU : U i ≤ 1000000) (hE : E i ≤ 1000000) (hC : C i ≤ 1000000) :
    Calls Try.prog 12 #[.pointer (some ⟨g, 0, none⟩), .agg #[.int .u32 0, .int .u32 i]] w (UseP w g n true true false U (inc C i (C i + 1)) E) := by
  have H := Lib.hid h
  have hsz := h.sz
  rw [wid_false] at hsz
  have hg : g < w.heap.size := by omega
  have hg1 : g + 1 < w.heap.size := by omega
  have hg2 : g + 2 < w.heap.size := by omega
  have c1 := h.c350
  have HT : Hid (Touch (fun k => g ≤ k ∧ k < g + wid false) w w) := Lib.hid (Touch.refl _ _)
  have c2 := h.c32
  have d8 := H.out.c108
  have e8 := (H.out.colC.2 i hi).1
  have e9 := (H.out.colC.2 i hi).2
  simp only at e8 e9
  clear h
  go_enter Try.func12, Try.ntmps12
  go_wp2
  go_region
  all_goals
    go_wp2
    go_end0
    exact ⟨rfl, H.out.cA hi (by omega) _, ((HT.out.setCell _ (fun _ => ⟨by simp, by have := wid_ge false; simp; omega⟩) _).alloc _).drew⟩

set_option maxRecDepth 100000 in
set_option maxHeartbeats 4000000 in
theorem t12_true_true_false (w : World) (g n i : Nat) (U C E : Nat → Nat) (h : St w g n true false true U C E) (hi : i < n) (hn : n ≤ 4096) (hU : U i ≤ 1000000) (hE : E i ≤ 1000000) (hC : C i ≤ 1000000) :
    Calls Try.prog 12 #[.pointer (some ⟨g, 0, none⟩), .agg #[.int .u32 0, .int .u32 i]] w (UseP w g n true false true U C E) := by
  have H := Lib.hid h
  have hsz := h.sz
  rw [wid_true] at hsz
  have hg : g < w.heap.size := by omega
  have hg1 : g + 1 < w.heap.size := by omega
  have hg2 : g + 2 < w.heap.size := by omega
  have c1 := h.c350
  have HT : Hid (Touch (fun k => g ≤ k ∧ k < g + wid true) w w) := Lib.hid (Touch.refl _ _)
  have c2 := h.c32
  clear h
  go_enter Try.func12, Try.ntmps12
  go_wp2
  go_end0
  exact ⟨rfl, H.out.keep (F := fun _ => False) ((Touch.refl _ _).alloc _) (fun _ _ _ h => h), HT.out.alloc _⟩

set_option maxRecDepth 100000 in
set_option maxHeartbeats 4000000 in
theorem t12_true_false_false (w : World) (g n i : Nat) (U C E : Nat → Nat) (h : St w g n true false false U C E) (hi : i < n) (hn : n ≤ 4096) (hU : U i ≤ 1000000) (hE : E i ≤ 1000000) (hC : C i ≤ 1000000) :
    Calls Try.prog 12 #[.pointer (some ⟨g, 0, none⟩), .agg #[.int .u32 0, .int .u32 i]] w (UseP w g n true false false U C E) := by
  have H := Lib.hid h
  have hsz := h.sz
  rw [wid_false] at hsz
  have hg : g < w.heap.size := by omega
  have hg1 : g + 1 < w.heap.size := by omega
  have hg2 : g + 2 < w.heap.size := by omega
  have c1 := h.c350
  have HT : Hid (Touch (fun k => g ≤ k ∧ k < g + wid false) w w) := Lib.hid (Touch.refl _ _)
  have c2 := h.c32
  clear h
  go_enter Try.func12, Try.ntmps12
  go_wp2
  go_end0
  exact ⟨rfl, H.out.keep (F := fun _ => False) ((Touch.refl _ _).alloc _) (fun _ _ _ h => h), HT.out.alloc _⟩

set_option maxRecDepth 100000 in
set_option maxHeartbeats 4000000 in
theorem t13_true_true_true (w : World) (g n i : Nat) (U C E : Nat → Nat) (h : St w g n true true true U C E) (hi : i < n) (hn : n ≤ 4096) (hU : U i ≤ 1000000) (hE : E i ≤ 1000000) (hC : C i ≤ 1000000) :
    Calls Try.prog 13 #[.pointer (some ⟨g, 0, none⟩), .agg #[.int .u32 0, .int .u32 i]] w (UseP w g n true true true U C E) := by
  have H := Lib.hid h
  have hsz := h.sz
  rw [wid_true] at hsz
  have hg : g < w.heap.size := by omega
  have hg1 : g + 1 < w.heap.size := by omega
  have hg2 : g + 2 < w.heap.size := by omega
  have c1 := h.c350
  have HT : Hid (Touch (fun k => g ≤ k ∧ k < g + wid true) w w) := Lib.hid (Touch.refl _ _)
  clear h
  go_enter Try.func13, Try.ntmps13
  go_wp2
  go_end0
  exact ⟨rfl, H.out.keep (F := fun _ => False) ((Touch.refl _ _).alloc _) (fun _ _ _ h => h), HT.out.alloc _⟩

set_option maxRecDepth 100000 in
set_option maxHeartbeats 4000000 in
theorem t13_true_false_true (w : World) (g n i : Nat) (U C E : Nat → Nat) (h : St w g n true true false U C E) (hi : i < n) (hn : n ≤ 4096) (hU : U i ≤ 1000000) (hE : E i ≤ 1000000) (hC : C i ≤ 1000000) :
    Calls Try.prog 13 #[.pointer (some ⟨g, 0, none⟩), .agg #[.int .u32 0, .int .u32 i]] w (UseP w g n true true false U C E) := by
  have H := Lib.hid h
  have hsz := h.sz
  rw [wid_false] at hsz
  have hg : g < w.heap.size := by omega
  have hg1 : g + 1 < w.heap.size := by omega
  have hg2 : g + 2 < w.heap.size := by omega
  have c1 := h.c350
  have HT : Hid (Touch (fun k => g ≤ k ∧ k < g + wid false) w w) := Lib.hid (Touch.refl _ _)
  clear h
  go_enter Try.func13, Try.ntmps13
  go_wp2
  go_end0
  exact ⟨rfl, H.out.keep (F := fun _ => False) ((Touch.refl _ _).alloc _) (fun _ _ _ h => h), HT.out.alloc _⟩

set_option maxRecDepth 100000 in
set_option maxHeartbeats 4000000 in
theorem t13_true_true_false (w : World) (g n i : Nat) (U C E : Nat → Nat) (h : St w g n true false true U C E) (hi : i < n) (hn : n ≤ 4096) (hU : U i ≤ 1000000) (hE : E i ≤ 1000000) (hC : C i ≤ 1000000) :
    Calls Try.prog 13 #[.pointer (some ⟨g, 0, none⟩), .agg #[.int .u32 0, .int .u32 i]] w (UseP w g n true false true U C E) := by
  have H := Lib.hid h
  have hsz := h.sz
  rw [wid_true] at hsz
  have hg : g < w.heap.size := by omega
  have hg1 : g + 1 < w.heap.size := by omega
  have hg2 : g + 2 < w.heap.size := by omega
  have c1 := h.c350
  have HT : Hid (Touch (fun k => g ≤ k ∧ k < g + wid true) w w) := Lib.hid (Touch.refl _ _)
  clear h
  go_enter Try.func13, Try.ntmps13
  go_wp2
  go_end0
  exact ⟨rfl, H.out.keep (F := fun _ => False) ((Touch.refl _ _).alloc _) (fun _ _ _ h => h), HT.out.alloc _⟩

set_option maxRecDepth 100000 in
set_option maxHeartbeats 4000000 in
theorem t13_true_false_false (w : World) (g n i : Nat) (U C E : Nat → Nat) (h : St w g n true false false U C E) (hi : i < n) (hn : n ≤ 4096) (hU : U i ≤ 1000000) (hE : E i ≤ 1000000) (hC : C i ≤ 1000000) :
    Calls Try.prog 13 #[.pointer (some ⟨g, 0, none⟩), .agg #[.int .u32 0, .int .u32 i]] w (UseP w g n true false false U C E) := by
  have H := Lib.hid h
  have hsz := h.sz
  rw [wid_false] at hsz
  have hg : g < w.heap.size := by omega
  have hg1 : g + 1 < w.heap.size := by omega
  have hg2 : g + 2 < w.heap.size := by omega
  have c1 := h.c350
  have HT : Hid (Touch (fun k => g ≤ k ∧ k < g + wid false) w w) := Lib.hid (Touch.refl _ _)
  clear h
  go_enter Try.func13, Try.ntmps13
  go_wp2
  go_end0
  exact ⟨rfl, H.out.keep (F := fun _ => False) ((Touch.refl _ _).alloc _) (fun _ _ _ h => h), HT.out.alloc _⟩
end Go.Proofs.Ytcpibdgihomleaa.us
