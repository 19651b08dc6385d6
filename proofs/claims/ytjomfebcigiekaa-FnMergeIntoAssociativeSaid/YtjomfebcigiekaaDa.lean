/-
  Deferred errors: words, one range.
-/
import Derived.Test.YtjomfebcigiekaaProg
import Derived.WalkKit
import Derived.ProofKit
import Derived.OpenShut
import Derived.ShutString
import Derived.Lib.Hide
import Derived.WalkLawsBesides
import Derived.Deep.OwnRows
import Derived.Laws.Rows
import Derived.OneCell
import Derived.Below
import Derived.WalkSpells
import Derived.WalkSmall
import Derived.Outline
import Derived.BigQuiet
import Derived.Deep.RegionLaw
import Derived.Deep.MidRow
import Derived.Orders
import Derived.Laws.Tables
import Derived.Laws.CopyOwn
import Derived.Deep.CutBlock
import Derived.Deep.RegionHeld

namespace Go.Proofs.Ytjomfebcigiekaa.de
open Go.ChangeShapes Go.WideShapes Go.ChangeAt Go.RowKit Go.Deep
set_option linter.unusedVariables false
set_option linter.unusedSimpArgs false
set_option linter.unnecessarySimpa false
set_option maxRecDepth 100000
set_option maxHeartbeats 1000000
/-- Block g is a row of N cells of element type T, cell p holding G p; it may be written. -/
def RowG (w : World) (g : Nat) (T : TypeId) (N : Nat) (G : Nat → Value) : Prop :=
  ∃ arr, w.heap[g]? = some (.cells arr T (0, 0)) ∧ arr.size = N ∧ ∀ p, p < N → arr[p]? = some (G p)
section
variable {w w' : World} {g N : Nat} {T : TypeId} {G : Nat → Value}
theorem RowG.lt (h : RowG w g T N G) : g < w.heap.size := by
  obtain ⟨arr, h1, _, _⟩ := h
  exact lt_of_block h1
theorem RowG.cell (h : RowG w g T N G) {p : Nat} (hp : p < N) : w.cell? ⟨g, p, none⟩ = some (G p) := by
  obtain ⟨arr, h1, _, h3⟩ := h
  rw [cell_of_row w g p _ _ _ h1]
  exact h3 p hp
theorem RowG.frozen (h : RowG w g T N G) (p : Nat) : w.frozen? ⟨g, p, none⟩ = false := by
  obtain ⟨arr, h1, _, _⟩ := h
  exact frozen_of_row w g p _ _ h1
theorem RowG.set (h : RowG w g T N G) (p : Nat) (v : Value) : RowG (w.setCell ⟨g, p, none⟩ v) g T N (fun q => if q = p then v else G q) := by
  obtain ⟨arr, h1, h2, h3⟩ := h
  refine ⟨_, heap_setCell_same w g p arr T v h1, by simpa using h2, fun q hq => ?_⟩
  by_cases e : p = q
  · subst e
    rw [Array.getElem?_setIfInBounds_self_of_lt (by omega)]
    simp
  · rw [Array.getElem?_setIfInBounds_ne e]
    show arr[q]? = some (if q = p then v else G q)
    rw [if_neg (by omega)]
    exact h3 q hq
theorem RowG.ext {G' : Nat → Value} (h : RowG w g T N G) (e : ∀ p, p < N → G p = G' p) : RowG w g T N G' := by
  obtain ⟨arr, h1, h2, h3⟩ := h
  exact ⟨arr, h1, h2, fun p hp => by rw [h3 p hp, e p hp]⟩
theorem RowG.drew (h : RowG w g T N G) : RowG w.drew g T N G := h
theorem RowG.of_block (h : RowG w g T N G) (e : w'.heap[g]? = w.heap[g]?) : RowG w' g T N G := by
  obtain ⟨arr, h1, h2, h3⟩ := h
  exact ⟨arr, e.trans h1, h2, h3⟩
theorem RowG.below {B : Nat} (h : RowG w g T N G) (hb : Below B w w') (hg : g < B) : RowG w' g T N G := h.of_block (hb.block g hg)
theorem RowG.alloc (h : RowG w g T N G) (o : Obj) : RowG (w.alloc o) g T N G := h.below ((Below.refl _ _).alloc (Nat.le_refl _) o) h.lt
theorem RowG.other (h : RowG w g T N G) (a : Addr) (v : Value) (hg : g ≠ a.block) : RowG (w.setCell a v) g T N G := h.of_block (Below.heap_setCell _ _ _ _ hg)
end
theorem RowG.made (w : World) (T : TypeId) (arr : Array Value) (G : Nat → Value) (h : ∀ p, p < arr.size → arr[p]? = some (G p)) : RowG (w.alloc (.cells arr T)) w.heap.size T arr.size G :=
  ⟨arr, heap_alloc_new w _, rfl, h⟩

/-- Nothing but block g has changed; no block has gone or come. -/
def Only (g : Nat) (w w' : World) : Prop := w'.heap.size = w.heap.size ∧ (∀ k, k ≠ g → w'.heap[k]? = w.heap[k]?) ∧ ∀ B, B ≤ g → Below B w w'
theorem Only.refl (g : Nat) (w : World) : Only g w w := ⟨rfl, fun _ _ => rfl, fun B _ => Below.refl B w⟩
theorem Only.drew {g : Nat} {w w' : World} (h : Only g w w') : Only g w w'.drew := ⟨h.1, h.2.1, fun B hB => (h.2.2 B hB).drew⟩
theorem Only.set {g : Nat} {w w' : World} (h : Only g w w') (p : Nat) (v : Value) : Only g w (w'.setCell ⟨g, p, none⟩ v) :=
  ⟨by rw [← h.1]; simp, fun k hk => (Below.heap_setCell _ _ _ _ (by exact hk)).trans (h.2.1 k hk), fun B hB => (h.2.2 B hB).setCell (by exact hB) _⟩
theorem Only.row {g g' N : Nat} {T : TypeId} {G : Nat → Value} {w w' : World} (h : Only g w w') (r : RowG w g' T N G) (hg : g' ≠ g) : RowG w' g' T N G := r.of_block (h.2.1 g' hg)
theorem Only.trans {g : Nat} {a b c : World} (h : Only g a b) (k : Only g b c) : Only g a c := ⟨k.1.trans h.1, fun i hi => (k.2.1 i hi).trans (h.2.1 i hi), fun B hB => (h.2.2 B hB).trans (k.2.2 B hB)⟩

/-- A slice of n elements, V i at place i; of an empty one nothing is said. -/
def Row (w : World) (a : Option Addr) (n : Nat) (V : Nat → Value) : Prop := 0 < n → ∃ b off, a = some ⟨b, off, none⟩ ∧ ∀ i, i < n → w.cell? ⟨b, off + i, none⟩ = some (V i)
theorem Row.below {w w' : World} {a : Option Addr} {n : Nat} {V : Nat → Value} (h : Row w a n V) (hb : Below w.heap.size w w') : Row w' a n V := by
  intro h0
  obtain ⟨b, off, rfl, hc⟩ := h h0
  refine ⟨b, off, rfl, fun i hi => ?_⟩
  have h1 := hc i hi
  exact (hb.cell (p := ⟨b, off + i, none⟩) (block_lt_of_cell h1)).trans h1
theorem Row.of_cells {w : World} {a : Addr} {n m : Nat} {V : Nat → Value} (hn : n ≤ m) (h : ∀ i, i < m → w.cell? (a.add i) = some (V i)) : Row w (some a) n V := by
  intro h0
  obtain ⟨b, off, spot⟩ := a
  have hspot : spot = none := by simpa [Addr.add] using World.cell?_spot (h 0 (by omega))
  subst hspot
  exact ⟨b, off, rfl, fun j hj => by rw [← Go.WideShapes.add_plain]; exact h j (by omega)⟩

section
variable {P : Program} {ops : Array Oper} {Q : Exit → Act → World → Prop}

theorem count_set_true : ∀ (l : List Bool) (i : Nat), l[i]? = some false → (l.set i true).count false + 1 = l.count false
  | [], i, h => by simp at h
  | b :: l, 0, h => by
    simp only [List.getElem?_cons_zero, Option.some.injEq] at h
    subst h
    simp
  | b :: l, i + 1, h => by
    have ih := count_set_true l i (by simpa using h)
    simp only [List.set_cons_succ, List.count_cons]
    omega
theorem getD_false_of {L : Array Bool} {i : Nat} (h : L.getD i true = false) : L.toList[i]? = some false := by
  rw [Array.getElem?_toList]
  rw [Array.getD_eq_getD_getElem?] at h
  cases e : L[i]? with
  | none => simp [e] at h
  | some b => simp [e] at h; rw [h]
theorem getD_true_of {L : Array Bool} {i : Nat} (hi : i < L.size) (h : L.getD i true ≠ false) : L.getD i false = true := by
  rw [Array.getD_eq_getD_getElem?] at h ⊢
  rw [Array.getElem?_eq_getElem hi] at h ⊢
  simpa using h
/-- Every edge that binds leads backwards. -/
def backB (ops : Array Oper) : Bool := (List.range ops.size).all fun i => ((ops[i]?).map fun o => o.after.all fun e => !Region.binds .any e || decide (e.on < i)).getD true
theorem back_of (hb : backB ops = true) {i : Nat} {o : Oper} (ho : ops[i]? = some o) : ∀ e ∈ o.after, Region.binds .any e = true → e.on < i := by
  have hi : i < ops.size := (Array.getElem?_eq_some_iff.1 ho).1
  have h := List.all_eq_true.1 hb i (by simpa using hi)
  simp only [ho, Option.map_some, Option.getD_some, Array.all_eq_true_iff_forall_mem] at h
  intro e he hbd
  have := h e he
  rw [hbd] at this
  simpa using this
/-- While one has not come up, one may come up. -/
theorem ready_ne (hb : backB ops = true) {L : Array Bool} (hs : L.size = ops.size) : ∀ (n j : Nat), j < n → j < ops.size → L.getD j true = false → Region.ready .any ops L ≠ [] := by
  intro n
  induction n with
  | zero => intro j h; omega
  | succ n ih =>
    intro j hjn hj hu
    have ho : ops[j]? = some ops[j] := Array.getElem?_eq_getElem hj
    by_cases hall : ∀ e ∈ ops[j].after, Region.binds .any e = true → L.getD e.on true ≠ false
    · intro h0
      have hm : j ∈ Region.ready .any ops L := mem_ready.2 ⟨hu, _, ho, fun e he hbd => getD_true_of (by have := back_of hb ho e he hbd; omega) (hall e he hbd)⟩
      rw [h0] at hm
      cases hm
    · obtain ⟨e, he⟩ := Classical.not_forall.1 hall
      obtain ⟨hm, hl⟩ := Classical.not_imp.1 he
      obtain ⟨hbd, hl⟩ := Classical.not_imp.1 hl
      have hlt := back_of hb ho e hm hbd
      exact ih e.on (by omega) (by omega) (Classical.not_not.1 hl)

theorem wpAny_inv (I : Array Bool → Act → World → Prop) (hb : backB ops = true)
    (hstep : ∀ (i : Nat) (o : Oper) (L : Array Bool) (a : Act) (w : World), ops[i]? = some o → L.size = ops.size → L.getD i true = false →
      (∀ e ∈ o.after, Region.binds .any e = true → L.getD e.on false = true) → I L a w → wpOp P ops Q i (I (L.setIfInBounds i true)) a w)
    (hend : ∀ (L : Array Bool) (a : Act) (w : World), (∀ j, j < ops.size → L.getD j false = true) → I L a w → Q .normal a w) :
    ∀ (fuel : Nat) (L : Array Bool) (a : Act) (w : World), L.size = ops.size → L.toList.count false ≤ fuel → I L a w → wpAny P .any ops Q fuel L a w := by
  have fin : ∀ (L : Array Bool) (a : Act) (w : World), L.size = ops.size → Region.ready .any ops L = [] → I L a w → Q .normal a w := fun L a w hs h0 hI =>
    hend L a w (fun j hj => getD_true_of (by omega) fun hf => ready_ne hb hs (j + 1) j (by omega) hj hf h0) hI
  intro fuel
  induction fuel with
  | zero =>
    intro L a w hs hc hI
    have h0 : Region.ready .any ops L = [] := by
      cases hr : Region.ready .any ops L with
      | nil => rfl
      | cons i rest =>
        have hm : i ∈ Region.ready .any ops L := by rw [hr]; exact List.mem_cons_self ..
        have := count_set_true L.toList i (getD_false_of (mem_ready.1 hm).1)
        omega
    exact ⟨h0, fin L a w hs h0 hI⟩
  | succ fuel ih =>
    intro L a w hs hc hI
    refine ⟨fun h0 => fin L a w hs h0 hI, fun i hi => ?_⟩
    obtain ⟨hu, o, ho, hall⟩ := mem_ready.1 hi
    refine wpOp_mono (fun a' w' hI' => ih _ a' w' (by simpa using hs) ?_ hI') (hstep i o L a w ho hs hu hall hI)
    have h1 := count_set_true L.toList i (getD_false_of hu)
    have h2 : (L.setIfInBounds i true).toList = L.toList.set i true := by simp
    rw [h2]
    omega

theorem wp_region_inv {id : Nat} {a : Act} {w : World} (hm : P.follows .mixedOrders = true) (I : Array Bool → Act → World → Prop) (hb : backB ops = true)
    (h0 : I (Array.replicate ops.size false) a w.drew)
    (hstep : ∀ (i : Nat) (o : Oper) (L : Array Bool) (a : Act) (w : World), ops[i]? = some o → L.size = ops.size → L.getD i true = false →
      (∀ e ∈ o.after, Region.binds .any e = true → L.getD e.on false = true) → I L a w → wpOp P ops Q i (I (L.setIfInBounds i true)) a w)
    (hend : ∀ (L : Array Bool) (a : Act) (w : World), (∀ j, j < ops.size → L.getD j false = true) → I L a w → Q .normal a w) :
    (Code.region id ops true).wp P Q a w :=
  wp_region_any hm (wpAny_inv I hb hstep hend _ _ _ _ (by simp) (by simpa using List.count_le_length (a := false) (l := List.replicate ops.size false)) h0)

/-- The slot that operation j leaves its value in. -/
def dstAt (ops : Array Oper) (j : Nat) : Option Tmp := (ops[j]?).bind (·.dst)
/-- No operation is guarded; each writes a slot of its own, inside the frame. -/
def slotsB (ops : Array Oper) (N : Nat) : Bool :=
  (List.range ops.size).all fun i => ((ops[i]?).map fun o => o.guard.isNone).getD true && (match dstAt ops i with | some d => decide (d < N) | none => true) && (List.range ops.size).all fun j => i == j || (dstAt ops i).isNone || dstAt ops i != dstAt ops j
theorem slots_guard {N : Nat} (h : slotsB ops N = true) {i : Nat} {o : Oper} (ho : ops[i]? = some o) : o.guard = none := by
  have hi : i < ops.size := (Array.getElem?_eq_some_iff.1 ho).1
  have k := List.all_eq_true.1 h i (by simpa using hi)
  simp only [Bool.and_eq_true, ho, Option.map_some, Option.getD_some] at k
  simpa using k.1.1
theorem dst_lt {i d : Nat} (h : dstAt ops i = some d) : i < ops.size := by
  unfold dstAt at h
  cases e : ops[i]? with
  | none => simp [e] at h
  | some o => exact (Array.getElem?_eq_some_iff.1 e).1
theorem slots_lt {N : Nat} (h : slotsB ops N = true) {i d : Nat} (hd : dstAt ops i = some d) : d < N := by
  have k := List.all_eq_true.1 h i (by simpa using dst_lt hd)
  simp only [Bool.and_eq_true, hd] at k
  simpa using k.1.2
theorem slots_inj {N : Nat} (h : slotsB ops N = true) {i j d : Nat} (hi : dstAt ops i = some d) (hj : dstAt ops j = some d) : i = j := by
  have k := List.all_eq_true.1 h i (by simpa using dst_lt hi)
  simp only [Bool.and_eq_true] at k
  have k2 := List.all_eq_true.1 k.2 j (by simpa using dst_lt hj)
  simp only [hi, hj, Option.isNone_some, Bool.or_false, bne_self_eq_false] at k2
  simpa using k2
theorem tmps_put_same {a : Act} {d : Nat} {v : Value} (h : d < a.tmps.size) : (a.put (some d) v).tmps.getD d undef = v := by
  simp [Act.put, Array.getD_eq_getD_getElem?, h]
theorem tmps_put_ne {a : Act} {d e : Nat} {v : Value} (h : d ≠ e) : (a.put (some d) v).tmps.getD e undef = a.tmps.getD e undef := by
  simp [Act.put, Array.getD_eq_getD_getElem?, Array.getElem?_setIfInBounds_ne h]
theorem size_put (a : Act) (d : Option Tmp) (v : Value) : (a.put d v).tmps.size = a.tmps.size := by cases d <;> simp [Act.put]
theorem defers_put (a : Act) (d : Option Tmp) (v : Value) : (a.put d v).defers = a.defers := by cases d <;> rfl

/-- The frame behind the region: each slot written, in the order of the text. -/
def finAct (ops : Array Oper) (V : Nat → Value) (a0 : Act) : Nat → Act
  | 0 => a0
  | k + 1 => (finAct ops V a0 k).put (dstAt ops k) (V k)
theorem fin_spec {V : Nat → Value} {a0 : Act} (hB : slotsB ops a0.tmps.size = true) : ∀ k, (finAct ops V a0 k).defers = a0.defers ∧ (finAct ops V a0 k).tmps.size = a0.tmps.size ∧
    (∀ d, (∀ j, j < k → dstAt ops j ≠ some d) → (finAct ops V a0 k).tmps.getD d undef = a0.tmps.getD d undef) ∧
    ∀ j d, j < k → dstAt ops j = some d → (finAct ops V a0 k).tmps.getD d undef = V j := by
  intro k
  induction k with
  | zero => exact ⟨rfl, rfl, fun _ _ => rfl, fun j d h => by omega⟩
  | succ k ih =>
    obtain ⟨h1, h2, h3, h4⟩ := ih
    refine ⟨(defers_put ..).trans h1, (size_put ..).trans h2, fun d hd => ?_, fun j d hj hd => ?_⟩
    · rw [← h3 d fun j hj => hd j (by omega)]
      show ((finAct ops V a0 k).put (dstAt ops k) (V k)).tmps.getD d undef = _
      cases e : dstAt ops k with
      | none => rfl
      | some x => exact tmps_put_ne fun hx => hd k (by omega) (by rw [e, hx])
    · show ((finAct ops V a0 k).put (dstAt ops k) (V k)).tmps.getD d undef = _
      by_cases hjk : j = k
      · subst hjk
        rw [hd]
        exact tmps_put_same (by rw [h2]; exact slots_lt hB hd)
      · rw [← h4 j d (by omega) hd]
        cases e : dstAt ops k with
        | none => rfl
        | some x => exact tmps_put_ne fun hx => hjk (slots_inj hB hd (by rw [e, hx]))

/-- What is known of the frame while the operations come up: those that have come up have left V j, the other slots are as they were. -/
def Sl (ops : Array Oper) (V : Nat → Value) (a0 : Act) (L : Array Bool) (a : Act) : Prop :=
  a.defers = a0.defers ∧ a.tmps.size = a0.tmps.size ∧ (∀ d, (∀ j, dstAt ops j ≠ some d) → a.tmps.getD d undef = a0.tmps.getD d undef) ∧
  ∀ j d, L.getD j false = true → dstAt ops j = some d → a.tmps.getD d undef = V j
theorem getD_set_same {L : Array Bool} {i : Nat} (h : i < L.size) : (L.setIfInBounds i true).getD i false = true := by
  simp [Array.getD_eq_getD_getElem?, h]
theorem getD_set_other {L : Array Bool} {i j : Nat} (h : i ≠ j) (b : Bool) : (L.setIfInBounds i true).getD j b = L.getD j b := by
  simp [Array.getD_eq_getD_getElem?, Array.getElem?_setIfInBounds_ne h]
theorem Sl.next {V V' : Nat → Value} {a0 a : Act} {L : Array Bool} {i : Nat} {o : Oper} (hB : slotsB ops a0.tmps.size = true) (hi : ops[i]? = some o) (h : Sl ops V a0 L a)
    (hV : ∀ j, L.getD j false = true → V' j = V j) : Sl ops V' a0 (L.setIfInBounds i true) (a.put o.dst (V' i)) := by
  obtain ⟨h1, h2, h3, h4⟩ := h
  have hdi : dstAt ops i = o.dst := by unfold dstAt; rw [hi]; rfl
  refine ⟨(defers_put ..).trans h1, (size_put ..).trans h2, fun d hd => ?_, fun j d hj hd => ?_⟩
  · rw [← h3 d hd]
    cases e : o.dst with
    | none => rfl
    | some x => exact tmps_put_ne fun hx => hd i (by rw [hdi, e, hx])
  · by_cases hji : i = j
    · subst hji
      rw [hdi] at hd
      rw [hd]
      exact tmps_put_same (by rw [h2]; exact slots_lt hB (hdi.trans hd))
    · rw [getD_set_other hji] at hj
      rw [hV j hj, ← h4 j d hj hd]
      cases e : o.dst with
      | none => rfl
      | some x => exact tmps_put_ne fun hx => hji (slots_inj hB (hdi.trans (by rw [e, hx])) hd)
theorem Sl.final {V : Nat → Value} {a0 a : Act} {L : Array Bool} (hB : slotsB ops a0.tmps.size = true) (h : Sl ops V a0 L a) (hall : ∀ j, j < ops.size → L.getD j false = true) :
    a = finAct ops V a0 ops.size := by
  obtain ⟨h1, h2, h3, h4⟩ := h
  obtain ⟨f1, f2, f3, f4⟩ := fin_spec (V := V) hB ops.size
  have ht : a.tmps = (finAct ops V a0 ops.size).tmps := by
    apply Array.ext (h2.trans f2.symm)
    intro d hd hd'
    have e : a.tmps.getD d undef = (finAct ops V a0 ops.size).tmps.getD d undef := by
      by_cases hx : ∃ j, dstAt ops j = some d
      · obtain ⟨j, hj⟩ := hx
        rw [h4 j d (hall j (dst_lt hj)) hj, f4 j d (dst_lt hj) hj]
      · have hn : ∀ j, dstAt ops j ≠ some d := fun j hj => hx ⟨j, hj⟩
        rw [h3 d hn, f3 d fun j _ => hn j]
    simpa [Array.getD_eq_getD_getElem?, hd, hd'] using e
  cases a
  cases hf : finAct ops V a0 ops.size
  rw [hf] at ht f1
  simp only at ht h1 f1
  rw [ht, h1, f1]

/-- A REGION THAT DRAWS ITS ORDER, NO OPERATION GUARDED: V tells what each operation yields (as a function of what is found on the way), W what is known of the world: each operation by itself, from those that it waits for. -/
theorem wp_region_sl {Θ : Type} {id : Nat} {a0 : Act} {w : World} (hm : P.follows .mixedOrders = true) (V : Θ → Nat → Value) (W : Θ → Array Bool → World → Prop) (hb : backB ops = true) (hB : slotsB ops a0.tmps.size = true) (t0 : Θ)
    (h0 : W t0 (Array.replicate ops.size false) w.drew)
    (hstep : ∀ (i : Nat) (o : Oper) (t : Θ) (L : Array Bool) (a : Act) (w : World), ops[i]? = some o → L.size = ops.size → L.getD i true = false →
      (∀ e ∈ o.after, Region.binds .any e = true → L.getD e.on false = true) → Sl ops (V t) a0 L a → W t L w →
      o.wp P a w (fun a' w' => ∃ t', a' = a.put o.dst (V t' i) ∧ (∀ j, L.getD j false = true → V t' j = V t j) ∧ W t' (L.setIfInBounds i true) w') Q)
    (hend : ∀ (t : Θ) (L : Array Bool) (a : Act) (w : World), (∀ j, j < ops.size → L.getD j false = true) → Sl ops (V t) a0 L a → W t L w → Q .normal a w) :
    (Code.region id ops true).wp P Q a0 w := by
  refine wp_region_inv hm (fun L a w => ∃ t, Sl ops (V t) a0 L a ∧ W t L w) hb ⟨t0, ⟨rfl, rfl, fun _ _ => rfl, fun j d hj => ?_⟩, h0⟩ ?_ ?_
  · rw [Array.getD_eq_getD_getElem?, Array.getElem?_replicate] at hj
    split at hj <;> simp at hj
  · rintro i o L a w ho hs hu hall ⟨t, hS, hW⟩
    unfold wpOp
    simp only [ho, Region.wanted, slots_guard hB ho, if_true]
    refine .inl (Oper.wp_mono ?_ (hstep i o t L a w ho hs hu hall hS hW))
    rintro a' w' ⟨t', rfl, hV, hW'⟩
    exact ⟨t', Sl.next hB ho hS hV, hW'⟩
  · rintro L a w hall ⟨t, hS, hW⟩
    exact hend t L a w hall hS hW
end

/-- The operations of region k of a body. -/
def regOps (k : Nat) : Code → Option (Array Oper)
  | .region id ops _ => if id == k then some ops else none
  | .seq a b => match regOps k a with
    | some x => some x
    | none => regOps k b
  | .cond _ a b => match regOps k a with
    | some x => some x
    | none => regOps k b
  | .block _ c => regOps k c
  | .loop c => regOps k c
  | .scope c => regOps k c
  | _ => none
section
variable {P : Program} {ops : Array Oper} {Q : Exit → Act → World → Prop} {a a0 : Act} {w : World} {o : Oper} {L : Array Bool} {i : Nat} {V : Nat → Value}
theorem reg_use {ops' : Array Oper} {id : Nat} {b : Bool} (h : ops' = ops) (k : (Code.region id ops b).wp P Q a w) : (Code.region id ops' b).wp P Q a w := by rw [h]; exact k
theorem at_op {q : Op} (h : (ops[i]?).map (·.op) = some q) (ho : ops[i]? = some o) : o.op = q := by
  rw [ho] at h
  simpa using h
theorem at_dst {d : Option Tmp} (h : (ops[i]?).map (·.dst) = some d) (ho : ops[i]? = some o) : o.dst = d := by
  rw [ho] at h
  simpa using h
/-- Operation i waits for operation p. -/
def depB (ops : Array Oper) (i p : Nat) : Bool := ((ops[i]?).map fun o => o.after.any fun e => e.on == p && Region.binds .any e).getD false
theorem dep_listed {p : Nat} (he : depB ops i p = true) (ho : ops[i]? = some o) (hall : ∀ e ∈ o.after, Region.binds .any e = true → L.getD e.on false = true) : L.getD p false = true := by
  unfold depB at he
  simp only [ho, Option.map_some, Option.getD_some] at he
  obtain ⟨e, hm, hp⟩ := Array.any_eq_true'.1 he
  simp only [Bool.and_eq_true, beq_iff_eq] at hp
  rw [← hp.1]
  exact hall e hm hp.2
theorem Sl.arg {p d : Nat} (hS : Sl ops V a0 L a) (ho : ops[i]? = some o) (hall : ∀ e ∈ o.after, Region.binds .any e = true → L.getD e.on false = true) (he : depB ops i p = true) (hd : dstAt ops p = some d) : a.eval (.tmp d) = V p :=
  hS.2.2.2 p d (dep_listed he ho hall) hd
def outB (ops : Array Oper) (d : Nat) : Bool := (List.range ops.size).all fun j => dstAt ops j != some d
theorem Sl.out {d : Nat} (hS : Sl ops V a0 L a) (h : outB ops d = true) : a.eval (.tmp d) = a0.eval (.tmp d) :=
  hS.2.2.1 d fun j hj => by
    have := List.all_eq_true.1 h j (by simpa using dst_lt hj)
    simp [hj] at this
/-- An operation that yields its value and leaves the world alone. -/
theorem pure_op {Θ : Type} {V : Θ → Nat → Value} {W : Θ → Array Bool → World → Prop} {t : Θ} {v : Value} (hrun : (execOp a.eval o).run P w = .ok (.value v) w) (hv : v = V t i) (hW : W t (L.setIfInBounds i true) w) :
    o.wp P a w (fun a' w' => ∃ t', a' = a.put o.dst (V t' i) ∧ (∀ j, L.getD j false = true → V t' j = V t j) ∧ W t' (L.setIfInBounds i true) w') Q := by
  unfold Oper.wp
  rw [hrun, Oper.upon_value]
  exact ⟨t, by rw [hv], fun _ _ => rfl, hW⟩
theorem getD_false_of_unlisted {i : Nat} (h : L.getD i true = false) : L.getD i false = false := by
  rw [Array.getD_eq_getD_getElem?] at h ⊢
  cases e : L[i]? with
  | none => simp [e] at h
  | some b => simp [e] at h ⊢; exact h
theorem k_move (x : Operand) (ho : o.op = .move x) {v : Value} (hx : a.eval x = v) : (execOp a.eval o).run P w = .ok (.value v) w := by rw [BigFrame.run_move x ho, hx]
theorem k_row (ty : TypeId) (x : Operand) (ho : o.op = .load ty x) (b off : Nat) (hx : a.eval x = .pointer (some ⟨b, off, none⟩)) (cs : Array Value) (hC : w.rangeAt b off cs.toList) (d : TypeDesc)
    (hu : P.underlying ty = some d) (hd : d.isRow = true) (hi : (P.info? ty).map (·.size) = some cs.size) : (execOp a.eval o).run P w = .ok (.value (.agg cs)) w := by
  unfold execOp
  simp only [ho, hx, Instr.loadAt, Instr.sureAddr, Sem.run_bind, Sem.run_pure, Result.andThen_ok, run_loadVar_mid w b off ty cs.toList d hC hu hd (by simpa using hi)]
theorem k_build (t : TypeId) (parts : Array (Nat × Operand)) (ho : o.op = .build t parts) (cells : Array Value) (hb : P.built t (parts.map fun (i, x) => (i, a.eval x)).toList = some cells) :
    (execOp a.eval o).run P w = .ok (.value (.agg cells)) w := by
  unfold execOp
  simp only [ho, Sem.run_bind, run_build w t _ cells hb, Result.andThen_ok]
  rfl
/-- A call of a Go function. -/
theorem k_call {K : Act → World → Prop} {f : FuncId} {args : Array Value} (hrun : (execOp a.eval o).run P w = .ok (.enter f args) w) {R : Value → World → Prop} (hc : Calls P f args w fun e w' => ∃ v, e = .returned v ∧ R v w') (hK : ∀ v w', R v w' → K (a.put o.dst v) w') : o.wp P a w K Q := by
  unfold Oper.wp
  rw [hrun, Oper.upon_enter]
  refine hc.mono ?_
  rintro e w' ⟨v, rfl, hv⟩
  exact hK v w' hv
end

/-- The cells of a deferredErrors value: three ranges, a slice. -/
def dA (p : Nat → Int) (a : Option Addr) (n c : Nat) : Array Value := #[.int .i32 (p 0), .int .i32 (p 1), .int .i32 (p 2), .int .i32 (p 3), .int .i32 (p 4), .int .i32 (p 5), .slice a n c]
def zc (z : Nat → Int) (i : Nat) : Value := .int .i32 (z i)
theorem rng14 (x y : Int) (w : World) : Calls Try.prog 14 #[.agg #[.int .i32 x, .int .i32 y]] w fun e w' => e = .returned (.agg #[.int .i32 x, .int .i32 y]) ∧ Below w.heap.size w w' := by
  go_enter Try.func14, Try.ntmps14
  go_wp2
  refine bodyPost_ret (v := .agg #[.int .i32 x, .int .i32 y]) (by simp [results, Try.results14, go_sem]) rfl ⟨rfl, ?_⟩
  exact ((Below.refl _ _).alloc (Nat.le_refl _) _).alloc (by simp) _
theorem rng16 (x y : Int) (w : World) : Calls Try.prog 16 #[.agg #[.int .i32 x, .int .i32 y]] w fun e w' => e = .returned (.agg #[.int .i32 x, .int .i32 y]) ∧ Below w.heap.size w w' := by
  go_enter Try.func16, Try.ntmps16
  go_wp2
  refine bodyPost_ret (v := .agg #[.int .i32 x, .int .i32 y]) (by simp [results, Try.results16, go_sem]) rfl ⟨rfl, ?_⟩
  exact ((Below.refl _ _).alloc (Nat.le_refl _) _).alloc (by simp) _
theorem rng17 (x y : Int) (w : World) : Calls Try.prog 17 #[.agg #[.int .i32 x, .int .i32 y]] w fun e w' => e = .returned (.agg #[.int .i32 x, .int .i32 y]) ∧ Below w.heap.size w w' := by
  go_enter Try.func17, Try.ntmps17
  go_wp2
  refine bodyPost_ret (v := .agg #[.int .i32 x, .int .i32 y]) (by simp [results, Try.results17, go_sem]) rfl ⟨rfl, ?_⟩
  exact ((Below.refl _ _).alloc (Nat.le_refl _) _).alloc (by simp) _
end Go.Proofs.Ytjomfebcigiekaa.de
