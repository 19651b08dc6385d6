/-
  Regions that draw their order, by an invariant; the regions of the statement.
-/
import Derived.Test.YtdiadeebboojgaaFld
import Derived.Orders
import Derived.Deep.MidRow
import Derived.BigQuiet
import Derived.Laws.CopyOwn
import Derived.Laws.Tables
import Derived.Lib.Hide
import Derived.OneCell
import Derived.Deep.OwnRows
import Derived.Deep.CutBlock

namespace Go.Proofs.Ytdiadeebboojgaa.fl
open Go.ChangeShapes Go.WideShapes Go.ChangeAt Go.RowKit
set_option linter.unusedVariables false
set_option linter.unusedSimpArgs false
set_option linter.unnecessarySimpa false
set_option maxRecDepth 100000
set_option maxHeartbeats 1000000

section
variable {P : Program} {ops : Array Oper} {Q : Exit → Act → World → Prop}

theorem count_set_true : ∀ (l : List Bool) (i : Nat), l[i]? = some false → (l.set i true).count false + 1 = l.count false
  | [], i, h => by simp at h
  | b :: l, 0, h => by
    simp only [List.getElem?_cons_zero, Option.some.injEq] at h
    subst h
    simp
  | b :: l, i + 1, h => by
    have ih := count_set_true l i (by simpa using h)
    simp only [List.set_cons_succ, List.count_cons]
    omega
theorem getD_false_of {L : Array Bool} {i : Nat} (h : L.getD i true = false) : L.toList[i]? = some false := by
  rw [Array.getElem?_toList]
  rw [Array.getD_eq_getD_getElem?] at h
  cases e : L[i]? with
  | none => simp [e] at h
  | some b => simp [e] at h; rw [h]
theorem getD_true_of {L : Array Bool} {i : Nat} (hi : i < L.size) (h : L.getD i true ≠ false) : L.getD i false = true := by
  rw [Array.getD_eq_getD_getElem?] at h ⊢
  rw [Array.getElem?_eq_getElem hi] at h ⊢
  simpa using h
/-- Every edge leads backwards. -/
def backB (ops : Array Oper) : Bool := (List.range ops.size).all fun i => ((ops[i]?).map fun o => o.after.all fun e => decide (e.on < i)).getD true
theorem back_of (hb : backB ops = true) {i : Nat} {o : Oper} (ho : ops[i]? = some o) : ∀ e ∈ o.after, e.on < i := by
  have hi : i < ops.size := (Array.getElem?_eq_some_iff.1 ho).1
  have h := List.all_eq_true.1 hb i (by simpa using hi)
  simp only [ho, Option.map_some, Option.getD_some, Array.all_eq_true_iff_forall_mem] at h
  intro e he
  simpa using h e he
/-- While one has not come up, one may come up. -/
theorem ready_ne (hb : backB ops = true) {L : Array Bool} (hs : L.size = ops.size) : ∀ (n j : Nat), j < n → j < ops.size → L.getD j true = false → Region.ready .any ops L ≠ [] := by
  intro n
  induction n with
  | zero => intro j h; omega
  | succ n ih =>
    intro j hjn hj hu
    have ho : ops[j]? = some ops[j] := Array.getElem?_eq_getElem hj
    by_cases hall : ∀ e ∈ ops[j].after, L.getD e.on true ≠ false
    · intro h0
      have hm : j ∈ Region.ready .any ops L := mem_ready.2 ⟨hu, _, ho, fun e he _ => getD_true_of (by have := back_of hb ho e he; omega) (hall e he)⟩
      rw [h0] at hm
      cases hm
    · obtain ⟨e, he⟩ := Classical.not_forall.1 hall
      obtain ⟨hm, hl⟩ := Classical.not_imp.1 he
      have hlt := back_of hb ho e hm
      exact ih e.on (by omega) (by omega) (Classical.not_not.1 hl)

theorem wpAny_inv (I : Array Bool → Act → World → Prop) (hb : backB ops = true)
    (hstep : ∀ (i : Nat) (o : Oper) (L : Array Bool) (a : Act) (w : World), ops[i]? = some o → L.size = ops.size → L.getD i true = false →
      (∀ e ∈ o.after, Region.binds .any e = true → L.getD e.on false = true) → I L a w → wpOp P ops Q i (I (L.setIfInBounds i true)) a w)
    (hend : ∀ (L : Array Bool) (a : Act) (w : World), (∀ j, j < ops.size → L.getD j false = true) → I L a w → Q .normal a w) :
    ∀ (fuel : Nat) (L : Array Bool) (a : Act) (w : World), L.size = ops.size → L.toList.count false ≤ fuel → I L a w → wpAny P .any ops Q fuel L a w := by
  have fin : ∀ (L : Array Bool) (a : Act) (w : World), L.size = ops.size → Region.ready .any ops L = [] → I L a w → Q .normal a w := fun L a w hs h0 hI =>
    hend L a w (fun j hj => getD_true_of (by omega) fun hf => ready_ne hb hs (j + 1) j (by omega) hj hf h0) hI
  intro fuel
  induction fuel with
  | zero =>
    intro L a w hs hc hI
    have h0 : Region.ready .any ops L = [] := by
      cases hr : Region.ready .any ops L with
      | nil => rfl
      | cons i rest =>
        have hm : i ∈ Region.ready .any ops L := by rw [hr]; exact List.mem_cons_self ..
        have := count_set_true L.toList i (getD_false_of (mem_ready.1 hm).1)
        omega
    exact ⟨h0, fin L a w hs h0 hI⟩
  | succ fuel ih =>
    intro L a w hs hc hI
    refine ⟨fun h0 => fin L a w hs h0 hI, fun i hi => ?_⟩
    obtain ⟨hu, o, ho, hall⟩ := mem_ready.1 hi
    refine wpOp_mono (fun a' w' hI' => ih _ a' w' (by simpa using hs) ?_ hI') (hstep i o L a w ho hs hu hall hI)
    have h1 := count_set_true L.toList i (getD_false_of hu)
    have h2 : (L.setIfInBounds i true).toList = L.toList.set i true := by simp
    rw [h2]
    omega

theorem wp_region_inv {id : Nat} {a : Act} {w : World} (hm : P.follows .mixedOrders = true) (I : Array Bool → Act → World → Prop) (hb : backB ops = true)
    (h0 : I (Array.replicate ops.size false) a w.drew)
    (hstep : ∀ (i : Nat) (o : Oper) (L : Array Bool) (a : Act) (w : World), ops[i]? = some o → L.size = ops.size → L.getD i true = false →
      (∀ e ∈ o.after, Region.binds .any e = true → L.getD e.on false = true) → I L a w → wpOp P ops Q i (I (L.setIfInBounds i true)) a w)
    (hend : ∀ (L : Array Bool) (a : Act) (w : World), (∀ j, j < ops.size → L.getD j false = true) → I L a w → Q .normal a w) :
    (Code.region id ops true).wp P Q a w :=
  wp_region_any hm (wpAny_inv I hb hstep hend _ _ _ _ (by simp) (by simpa using List.count_le_length (a := false) (l := List.replicate ops.size false)) h0)

/-- The slot that operation j leaves its value in. -/
def dstAt (ops : Array Oper) (j : Nat) : Option Tmp := (ops[j]?).bind (·.dst)
/-- No operation is guarded; each writes a slot of its own, inside the frame. -/
def slotsB (ops : Array Oper) (N : Nat) : Bool :=
  (List.range ops.size).all fun i => ((ops[i]?).map fun o => o.guard.isNone).getD true && (match dstAt ops i with | some d => decide (d < N) | none => true) && (List.range ops.size).all fun j => i == j || (dstAt ops i).isNone || dstAt ops i != dstAt ops j
theorem slots_guard {N : Nat} (h : slotsB ops N = true) {i : Nat} {o : Oper} (ho : ops[i]? = some o) : o.guard = none := by
  have hi : i < ops.size := (Array.getElem?_eq_some_iff.1 ho).1
  have k := List.all_eq_true.1 h i (by simpa using hi)
  simp only [Bool.and_eq_true, ho, Option.map_some, Option.getD_some] at k
  simpa using k.1.1
theorem dst_lt {i d : Nat} (h : dstAt ops i = some d) : i < ops.size := by
  unfold dstAt at h
  cases e : ops[i]? with
  | none => simp [e] at h
  | some o => exact (Array.getElem?_eq_some_iff.1 e).1
theorem slots_lt {N : Nat} (h : slotsB ops N = true) {i d : Nat} (hd : dstAt ops i = some d) : d < N := by
  have k := List.all_eq_true.1 h i (by simpa using dst_lt hd)
  simp only [Bool.and_eq_true, hd] at k
  simpa using k.1.2
theorem slots_inj {N : Nat} (h : slotsB ops N = true) {i j d : Nat} (hi : dstAt ops i = some d) (hj : dstAt ops j = some d) : i = j := by
  have k := List.all_eq_true.1 h i (by simpa using dst_lt hi)
  simp only [Bool.and_eq_true] at k
  have k2 := List.all_eq_true.1 k.2 j (by simpa using dst_lt hj)
  simp only [hi, hj, Option.isNone_some, Bool.or_false, bne_self_eq_false] at k2
  simpa using k2
theorem tmps_put_same {a : Act} {d : Nat} {v : Value} (h : d < a.tmps.size) : (a.put (some d) v).tmps.getD d undef = v := by
  simp [Act.put, Array.getD_eq_getD_getElem?, h]
theorem tmps_put_ne {a : Act} {d e : Nat} {v : Value} (h : d ≠ e) : (a.put (some d) v).tmps.getD e undef = a.tmps.getD e undef := by
  simp [Act.put, Array.getD_eq_getD_getElem?, Array.getElem?_setIfInBounds_ne h]
theorem size_put (a : Act) (d : Option Tmp) (v : Value) : (a.put d v).tmps.size = a.tmps.size := by cases d <;> simp [Act.put]
theorem defers_put (a : Act) (d : Option Tmp) (v : Value) : (a.put d v).defers = a.defers := by cases d <;> rfl

/-- The frame behind the region: each slot written, in the order of the text. -/
def finAct (ops : Array Oper) (V : Nat → Value) (a0 : Act) : Nat → Act
  | 0 => a0
  | k + 1 => (finAct ops V a0 k).put (dstAt ops k) (V k)
theorem fin_spec {V : Nat → Value} {a0 : Act} (hB : slotsB ops a0.tmps.size = true) : ∀ k, (finAct ops V a0 k).defers = a0.defers ∧ (finAct ops V a0 k).tmps.size = a0.tmps.size ∧
    (∀ d, (∀ j, j < k → dstAt ops j ≠ some d) → (finAct ops V a0 k).tmps.getD d undef = a0.tmps.getD d undef) ∧
    ∀ j d, j < k → dstAt ops j = some d → (finAct ops V a0 k).tmps.getD d undef = V j := by
  intro k
  induction k with
  | zero => exact ⟨rfl, rfl, fun _ _ => rfl, fun j d h => by omega⟩
  | succ k ih =>
    obtain ⟨h1, h2, h3, h4⟩ := ih
    refine ⟨(defers_put ..).trans h1, (size_put ..).trans h2, fun d hd => ?_, fun j d hj hd => ?_⟩
    · rw [← h3 d fun j hj => hd j (by omega)]
      show ((finAct ops V a0 k).put (dstAt ops k) (V k)).tmps.getD d undef = _
      cases e : dstAt ops k with
      | none => rfl
      | some x => exact tmps_put_ne fun hx => hd k (by omega) (by rw [e, hx])
    · show ((finAct ops V a0 k).put (dstAt ops k) (V k)).tmps.getD d undef = _
      by_cases hjk : j = k
      · subst hjk
        rw [hd]
        exact tmps_put_same (by rw [h2]; exact slots_lt hB hd)
      · rw [← h4 j d (by omega) hd]
        cases e : dstAt ops k with
        | none => rfl
        | some x => exact tmps_put_ne fun hx => hjk (slots_inj hB hd (by rw [e, hx]))

/-- What is known of the frame while the operations come up: those that have come up have left V j, the other slots are as they were. -/
def Sl (ops : Array Oper) (V : Nat → Value) (a0 : Act) (L : Array Bool) (a : Act) : Prop :=
  a.defers = a0.defers ∧ a.tmps.size = a0.tmps.size ∧ (∀ d, (∀ j, dstAt ops j ≠ some d) → a.tmps.getD d undef = a0.tmps.getD d undef) ∧
  ∀ j d, L.getD j false = true → dstAt ops j = some d → a.tmps.getD d undef = V j
theorem getD_set_same {L : Array Bool} {i : Nat} (h : i < L.size) : (L.setIfInBounds i true).getD i false = true := by
  simp [Array.getD_eq_getD_getElem?, h]
theorem getD_set_other {L : Array Bool} {i j : Nat} (h : i ≠ j) (b : Bool) : (L.setIfInBounds i true).getD j b = L.getD j b := by
  simp [Array.getD_eq_getD_getElem?, Array.getElem?_setIfInBounds_ne h]
theorem Sl.next {V V' : Nat → Value} {a0 a : Act} {L : Array Bool} {i : Nat} {o : Oper} (hB : slotsB ops a0.tmps.size = true) (hi : ops[i]? = some o) (h : Sl ops V a0 L a)
    (hV : ∀ j, L.getD j false = true → V' j = V j) : Sl ops V' a0 (L.setIfInBounds i true) (a.put o.dst (V' i)) := by
  obtain ⟨h1, h2, h3, h4⟩ := h
  have hdi : dstAt ops i = o.dst := by unfold dstAt; rw [hi]; rfl
  refine ⟨(defers_put ..).trans h1, (size_put ..).trans h2, fun d hd => ?_, fun j d hj hd => ?_⟩
  · rw [← h3 d hd]
    cases e : o.dst with
    | none => rfl
    | some x => exact tmps_put_ne fun hx => hd i (by rw [hdi, e, hx])
  · by_cases hji : i = j
    · subst hji
      rw [hdi] at hd
      rw [hd]
      exact tmps_put_same (by rw [h2]; exact slots_lt hB (hdi.trans hd))
    · rw [getD_set_other hji] at hj
      rw [hV j hj, ← h4 j d hj hd]
      cases e : o.dst with
      | none => rfl
      | some x => exact tmps_put_ne fun hx => hji (slots_inj hB (hdi.trans (by rw [e, hx])) hd)
theorem Sl.final {V : Nat → Value} {a0 a : Act} {L : Array Bool} (hB : slotsB ops a0.tmps.size = true) (h : Sl ops V a0 L a) (hall : ∀ j, j < ops.size → L.getD j false = true) :
    a = finAct ops V a0 ops.size := by
  obtain ⟨h1, h2, h3, h4⟩ := h
  obtain ⟨f1, f2, f3, f4⟩ := fin_spec (V := V) hB ops.size
  have ht : a.tmps = (finAct ops V a0 ops.size).tmps := by
    apply Array.ext (h2.trans f2.symm)
    intro d hd hd'
    have e : a.tmps.getD d undef = (finAct ops V a0 ops.size).tmps.getD d undef := by
      by_cases hx : ∃ j, dstAt ops j = some d
      · obtain ⟨j, hj⟩ := hx
        rw [h4 j d (hall j (dst_lt hj)) hj, f4 j d (dst_lt hj) hj]
      · have hn : ∀ j, dstAt ops j ≠ some d := fun j hj => hx ⟨j, hj⟩
        rw [h3 d hn, f3 d fun j _ => hn j]
    simpa [Array.getD_eq_getD_getElem?, hd, hd'] using e
  cases a
  cases hf : finAct ops V a0 ops.size
  rw [hf] at ht f1
  simp only at ht h1 f1
  rw [ht, h1, f1]

/-- A REGION THAT DRAWS ITS ORDER, NO OPERATION GUARDED: V tells what each operation yields (as a function of what is found on the way), W what is known of the world: each operation by itself, from those that it waits for. -/
theorem wp_region_sl {Θ : Type} {id : Nat} {a0 : Act} {w : World} (hm : P.follows .mixedOrders = true) (V : Θ → Nat → Value) (W : Θ → Array Bool → World → Prop) (hb : backB ops = true) (hB : slotsB ops a0.tmps.size = true) (t0 : Θ)
    (h0 : W t0 (Array.replicate ops.size false) w.drew)
    (hstep : ∀ (i : Nat) (o : Oper) (t : Θ) (L : Array Bool) (a : Act) (w : World), ops[i]? = some o → L.size = ops.size → L.getD i true = false →
      (∀ e ∈ o.after, Region.binds .any e = true → L.getD e.on false = true) → Sl ops (V t) a0 L a → W t L w →
      o.wp P a w (fun a' w' => ∃ t', a' = a.put o.dst (V t' i) ∧ (∀ j, L.getD j false = true → V t' j = V t j) ∧ W t' (L.setIfInBounds i true) w') Q)
    (hend : ∀ (t : Θ) (L : Array Bool) (a : Act) (w : World), (∀ j, j < ops.size → L.getD j false = true) → Sl ops (V t) a0 L a → W t L w → Q .normal a w) :
    (Code.region id ops true).wp P Q a0 w := by
  refine wp_region_inv hm (fun L a w => ∃ t, Sl ops (V t) a0 L a ∧ W t L w) hb ⟨t0, ⟨rfl, rfl, fun _ _ => rfl, fun j d hj => ?_⟩, h0⟩ ?_ ?_
  · rw [Array.getD_eq_getD_getElem?, Array.getElem?_replicate] at hj
    split at hj <;> simp at hj
  · rintro i o L a w ho hs hu hall ⟨t, hS, hW⟩
    unfold wpOp
    simp only [ho, Region.wanted, slots_guard hB ho, if_true]
    refine .inl (Oper.wp_mono ?_ (hstep i o t L a w ho hs hu hall hS hW))
    rintro a' w' ⟨t', rfl, hV, hW'⟩
    exact ⟨t', Sl.next hB ho hS hV, hW'⟩
  · rintro L a w hall ⟨t, hS, hW⟩
    exact hend t L a w hall hS hW
end

/-- The operations of region k of a body. -/
def regOps (k : Nat) : Code → Option (Array Oper)
  | .region id ops _ => if id == k then some ops else none
  | .seq a b => match regOps k a with
    | some x => some x
    | none => regOps k b
  | .cond _ a b => match regOps k a with
    | some x => some x
    | none => regOps k b
  | .block _ c => regOps k c
  | .loop c => regOps k c
  | .scope c => regOps k c
  | _ => none
section
variable {P : Program} {ops : Array Oper} {Q : Exit → Act → World → Prop} {a a0 : Act} {w : World} {o : Oper} {L : Array Bool} {i : Nat} {V : Nat → Value}
theorem reg_use {ops' : Array Oper} {id : Nat} {b : Bool} (h : ops' = ops) (k : (Code.region id ops b).wp P Q a w) : (Code.region id ops' b).wp P Q a w := by rw [h]; exact k
theorem at_op {q : Op} (h : (ops[i]?).map (·.op) = some q) (ho : ops[i]? = some o) : o.op = q := by
  rw [ho] at h
  simpa using h
theorem at_dst {d : Option Tmp} (h : (ops[i]?).map (·.dst) = some d) (ho : ops[i]? = some o) : o.dst = d := by
  rw [ho] at h
  simpa using h
/-- Operation i waits for operation p. -/
def depB (ops : Array Oper) (i p : Nat) : Bool := ((ops[i]?).map fun o => o.after.any fun e => e.on == p && Region.binds .any e).getD false
theorem dep_listed {p : Nat} (he : depB ops i p = true) (ho : ops[i]? = some o) (hall : ∀ e ∈ o.after, Region.binds .any e = true → L.getD e.on false = true) : L.getD p false = true := by
  unfold depB at he
  simp only [ho, Option.map_some, Option.getD_some] at he
  obtain ⟨e, hm, hp⟩ := Array.any_eq_true'.1 he
  simp only [Bool.and_eq_true, beq_iff_eq] at hp
  rw [← hp.1]
  exact hall e hm hp.2
theorem Sl.arg {p d : Nat} (hS : Sl ops V a0 L a) (ho : ops[i]? = some o) (hall : ∀ e ∈ o.after, Region.binds .any e = true → L.getD e.on false = true) (he : depB ops i p = true) (hd : dstAt ops p = some d) : a.eval (.tmp d) = V p :=
  hS.2.2.2 p d (dep_listed he ho hall) hd
def outB (ops : Array Oper) (d : Nat) : Bool := (List.range ops.size).all fun j => dstAt ops j != some d
theorem Sl.out {d : Nat} (hS : Sl ops V a0 L a) (h : outB ops d = true) : a.eval (.tmp d) = a0.eval (.tmp d) :=
  hS.2.2.1 d fun j hj => by
    have := List.all_eq_true.1 h j (by simpa using dst_lt hj)
    simp [hj] at this
/-- An operation that yields its value and leaves the world alone. -/
theorem pure_op {Θ : Type} {V : Θ → Nat → Value} {W : Θ → Array Bool → World → Prop} {t : Θ} {v : Value} (hrun : (execOp a.eval o).run P w = .ok (.value v) w) (hv : v = V t i) (hW : W t (L.setIfInBounds i true) w) :
    o.wp P a w (fun a' w' => ∃ t', a' = a.put o.dst (V t' i) ∧ (∀ j, L.getD j false = true → V t' j = V t j) ∧ W t' (L.setIfInBounds i true) w') Q := by
  unfold Oper.wp
  rw [hrun, Oper.upon_value]
  exact ⟨t, by rw [hv], fun _ _ => rfl, hW⟩
theorem getD_false_of_unlisted {i : Nat} (h : L.getD i true = false) : L.getD i false = false := by
  rw [Array.getD_eq_getD_getElem?] at h ⊢
  cases e : L[i]? with
  | none => simp [e] at h
  | some b => simp [e] at h ⊢; exact h
theorem k_move (x : Operand) (ho : o.op = .move x) {v : Value} (hx : a.eval x = v) : (execOp a.eval o).run P w = .ok (.value v) w := by rw [BigFrame.run_move x ho, hx]
theorem k_row (ty : TypeId) (x : Operand) (ho : o.op = .load ty x) (b off : Nat) (hx : a.eval x = .pointer (some ⟨b, off, none⟩)) (cs : Array Value) (hC : w.rangeAt b off cs.toList) (d : TypeDesc)
    (hu : P.underlying ty = some d) (hd : d.isRow = true) (hi : (P.info? ty).map (·.size) = some cs.size) : (execOp a.eval o).run P w = .ok (.value (.agg cs)) w := by
  unfold execOp
  simp only [ho, hx, Instr.loadAt, Instr.sureAddr, Sem.run_bind, Sem.run_pure, Result.andThen_ok, run_loadVar_mid w b off ty cs.toList d hC hu hd (by simpa using hi)]
theorem k_build (t : TypeId) (parts : Array (Nat × Operand)) (ho : o.op = .build t parts) (cells : Array Value) (hb : P.built t (parts.map fun (i, x) => (i, a.eval x)).toList = some cells) :
    (execOp a.eval o).run P w = .ok (.value (.agg cells)) w := by
  unfold execOp
  simp only [ho, Sem.run_bind, run_build w t _ cells hb, Result.andThen_ok]
  rfl
/-- A call of a Go function. -/
theorem k_call {K : Act → World → Prop} {f : FuncId} {args : Array Value} (hrun : (execOp a.eval o).run P w = .ok (.enter f args) w) {R : Value → World → Prop} (hc : Calls P f args w fun e w' => ∃ v, e = .returned v ∧ R v w') (hK : ∀ v w', R v w' → K (a.put o.dst v) w') : o.wp P a w K Q := by
  unfold Oper.wp
  rw [hrun, Oper.upon_enter]
  refine hc.mono ?_
  rintro e w' ⟨v, rfl, hv⟩
  exact hK v w' hv
end
noncomputable def ops2 : Array Oper := (Try.f3.body.bind (regOps 2)).getD #[]
theorem size2 : ops2.size = 6 := by kernel_rfl
noncomputable def V2 (a0 a1 y0 : Nat) (t i : Nat) : Value := if i = 4 then .pointer (some ⟨t, 0, none⟩) else [.agg #[.float .f64 (a0)], .float .f64 (a1), .agg #[.float .f64 (a1)], .agg #[.float .f64 (y0)], undef, undef].getD i undef
def W2 (w1 : World) (y0 t : Nat) (L : Array Bool) (w' : World) : Prop := Below w1.heap.size w1 w' ∧ (L.getD 4 false = true → w1.heap.size ≤ t ∧ w'.heap[t]? = some (.cells #[.float .f64 (if L.getD 5 false = true then y0 else 0)] 24 (0, 0))) ∧ (L.getD 5 false = true → L.getD 4 false = true)
theorem W2.next {w1 w' w2 : World} {y0 t : Nat} {L : Array Bool} {i : Nat} (h : W2 w1 y0 t L w') (h4 : i ≠ 4) (h5 : i ≠ 5) (hb : Below w'.heap.size w' w2) : W2 w1 y0 t (L.setIfInBounds i true) w2 := by
  unfold W2
  rw [getD_set_other h4, getD_set_other h5]
  exact ⟨h.1.trans (hb.mono h.1.size), fun x => ⟨(h.2.1 x).1, (hb.block _ (lt_of_block (h.2.1 x).2)).trans (h.2.1 x).2⟩, h.2.2⟩
theorem reg2 {id : Nat} {a00 : Act} {Q : Exit → Act → World → Prop} (w1 : World) (b a0 a1 y0 : Nat) (hcs : ∀ w, Calls Try.prog 6 #[.agg #[.float .f64 a0], .agg #[.float .f64 a1]] w (F64at y0 w)) (hs : a00.tmps.size = 47)
    (h5 : a00.eval (.tmp 5) = .pointer (some ⟨b, 0, none⟩)) (h1 : a00.eval (.tmp 1) = .float .f64 a1) (kb : w1.cell? ⟨b, 0, none⟩ = some (.float .f64 a0))
    (hQ : ∀ (t : Nat) (w' : World), Below w1.heap.size w1 w' → w1.heap.size ≤ t → w'.cell? ⟨t, 0, none⟩ = some (.float .f64 (y0)) → Q .normal ((((((a00.put (some 9) (.agg #[.float .f64 (a0)])).put (some 10) (.float .f64 (a1))).put (some 11) (.agg #[.float .f64 (a1)])).put (some 12) (.agg #[.float .f64 (y0)])).put (some 6) (.pointer (some ⟨t, 0, none⟩))).put none undef) w') :
    (Code.region id ops2 true).wp Try.prog Q a00 w1 := by
  refine wp_region_sl (Θ := Nat) (by kernel_rfl) (fun t => V2 a0 a1 y0 t) (fun t => W2 w1 y0 t) (by kernel_rfl) (by rw [hs]; kernel_rfl) 0 ?_ ?_ ?_
  · have hf : ∀ j, (Array.replicate ops2.size false).getD j false = false := fun j => by
      rw [Array.getD_eq_getD_getElem?, Array.getElem?_replicate]
      split <;> rfl
    refine ⟨(Below.refl _ _).drew, ?_, ?_⟩ <;> (intro hx; rw [hf] at hx; cases hx)
  · intro i o t L ac w' ho hL hu hall hS hW
    have hi : i < 6 := by rw [← size2]; exact (Array.getElem?_eq_some_iff.1 ho).1
    have hLs : L.size = 6 := by rw [hL]; exact size2
    have uf := getD_false_of_unlisted hu
    have rcs : i = 0 ∨ i = 1 ∨ i = 2 ∨ i = 3 ∨ i = 4 ∨ i = 5 := by omega
    rcases rcs with rfl | rfl | rfl | rfl | rfl | rfl
    · have ho1 := at_op (q := Op.load 24 (Operand.tmp 5)) (by kernel_rfl) ho
      have hx : ac.eval (.tmp 5) = .pointer (some ⟨b, 0, none⟩) := (hS.out (by kernel_rfl)).trans h5
      have hc : w'.cell? ⟨b, 0, none⟩ = some (.float .f64 a0) := (hW.1.cell (p := ⟨b, 0, none⟩) (block_lt_of_cell kb)).trans kb
      refine pure_op (t := t) (V := fun t => V2 a0 a1 y0 t) (W := fun t => W2 w1 y0 t) (v := .agg #[.float .f64 (a0)]) ?_ rfl (W2.next hW (i := 0) (by omega) (by omega) (Below.refl _ _))
      unfold execOp
      simp only [ho1, hx]
      go_simp
    · have ho1 := at_op (q := Op.move (Operand.tmp 1)) (by kernel_rfl) ho
      have hx : ac.eval (.tmp 1) = .float .f64 a1 := (hS.out (by kernel_rfl)).trans h1
      exact pure_op (t := t) (V := fun t => V2 a0 a1 y0 t) (W := fun t => W2 w1 y0 t) (v := .float .f64 (a1)) (k_move _ ho1 hx) rfl (W2.next hW (i := 1) (by omega) (by omega) (Below.refl _ _))
    · have ho1 := at_op (q := Op.call { callee := Callee.value (Operand.func 5), args := #[Operand.tmp 10], argTypes := #[22] }) (by kernel_rfl) ho
      have hx0 : ac.eval (.tmp 10) = .float .f64 (a1) := hS.arg (p := 1) (d := 10) ho hall (by kernel_rfl) (by kernel_rfl)
      have hrun : (execOp ac.eval o).run Try.prog w' = .ok (.enter 5 #[.float .f64 (a1)]) w' := by
        unfold execOp
        simp only [ho1, List.map_toArray, List.map_cons, List.map_nil, hx0]
        go_simp
        first | done | (simpa [Act.eval] using hx0) | exact ⟨by simpa [Act.eval] using hx0, by simpa [Act.eval] using hx1⟩
      refine k_call hrun (R := fun v w2 => v = .agg #[.float .f64 (a1)] ∧ Below w'.heap.size w' w2) ((new a1 w').mono fun e w2 hh => ⟨_, hh.1, rfl, hh.2⟩) ?_
      rintro v w2 ⟨rfl, hb⟩
      exact ⟨t, rfl, fun _ _ => rfl, W2.next hW (i := 2) (by omega) (by omega) hb⟩
    · have ho1 := at_op (q := Op.call { callee := Callee.value (Operand.func 6), args := #[Operand.tmp 9, Operand.tmp 11], argTypes := #[24, 24] }) (by kernel_rfl) ho
      have hx0 : ac.eval (.tmp 9) = .agg #[.float .f64 (a0)] := hS.arg (p := 0) (d := 9) ho hall (by kernel_rfl) (by kernel_rfl)
      have hx1 : ac.eval (.tmp 11) = .agg #[.float .f64 (a1)] := hS.arg (p := 2) (d := 11) ho hall (by kernel_rfl) (by kernel_rfl)
      have hrun : (execOp ac.eval o).run Try.prog w' = .ok (.enter 6 #[.agg #[.float .f64 (a0)], .agg #[.float .f64 (a1)]]) w' := by
        unfold execOp
        simp only [ho1, List.map_toArray, List.map_cons, List.map_nil, hx0, hx1]
        go_simp
        first | done | (simpa [Act.eval] using hx0) | exact ⟨by simpa [Act.eval] using hx0, by simpa [Act.eval] using hx1⟩
      refine k_call hrun (R := fun v w2 => v = .agg #[.float .f64 (y0)] ∧ Below w'.heap.size w' w2) ((hcs w').mono fun e w2 hh => ⟨_, hh.1, rfl, hh.2⟩) ?_
      rintro v w2 ⟨rfl, hb⟩
      exact ⟨t, rfl, fun _ _ => rfl, W2.next hW (i := 3) (by omega) (by omega) hb⟩
    · have ho1 := at_op (q := Op.alloc 24) (by kernel_rfl) ho
      have hrun : (execOp ac.eval o).run Try.prog w' = .ok (.value (.pointer (some ⟨w'.heap.size, 0, none⟩))) (w'.alloc (.cells #[.float .f64 0] 24)) := by
        unfold execOp
        simp only [ho1]
        go_simp
      unfold Oper.wp
      rw [hrun, Oper.upon_value]
      refine ⟨w'.heap.size, rfl, fun j hj => ?_, ?_⟩
      · have hj4 : j ≠ 4 := fun h => by rw [h, uf] at hj; cases hj
        unfold V2
        rw [if_neg hj4, if_neg hj4]
      · have h5 : L.getD 5 false = false := by
          cases e : L.getD 5 false
          · rfl
          · have := hW.2.2 e; rw [uf] at this; cases this
        refine ⟨hW.1.alloc hW.1.size _, fun _ => ⟨hW.1.size, ?_⟩, fun x => ?_⟩
        · rw [getD_set_other (by omega), h5, if_neg Bool.false_ne_true]
          exact heap_alloc_new _ _
        · rw [getD_set_other (by omega), h5] at x
          cases x
    · have ho1 := at_op (q := Op.store 24 (Operand.tmp 6) (Operand.tmp 12)) (by kernel_rfl) ho
      have hd := at_dst (d := none) (by kernel_rfl) ho
      have hx : ac.eval (.tmp 6) = .pointer (some ⟨t, 0, none⟩) := hS.arg (p := 4) (d := 6) ho hall (by kernel_rfl) (by kernel_rfl)
      have hy : ac.eval (.tmp 12) = .agg #[.float .f64 (y0)] := hS.arg (p := 3) (d := 12) ho hall (by kernel_rfl) (by kernel_rfl)
      have h4 := dep_listed (p := 4) (by kernel_rfl) ho hall
      obtain ⟨k1, k2⟩ := hW.2.1 h4
      rw [uf, if_neg Bool.false_ne_true] at k2
      refine wp_store_row 24 _ _ ho1 t _ hx hy 24 _ k2 (by kernel_rfl) rfl (by kernel_rfl) ?_
      refine ⟨t, by rw [hd]; rfl, fun _ _ => rfl, below_setRow hW.1 k1 _, fun _ => ⟨k1, ?_⟩, fun _ => by rw [getD_set_other (by omega)]; exact h4⟩
      rw [getD_set_same (by omega), if_pos rfl]
      exact setRow_heap _ _ _ _ _ _ k2
  · intro t L ac w' hall hS hW
    have hfin := hS.final (by rw [hs]; kernel_rfl) hall
    have he : finAct ops2 (V2 a0 a1 y0 t) a00 6 = (((((a00.put (some 9) (.agg #[.float .f64 (a0)])).put (some 10) (.float .f64 (a1))).put (some 11) (.agg #[.float .f64 (a1)])).put (some 12) (.agg #[.float .f64 (y0)])).put (some 6) (.pointer (some ⟨t, 0, none⟩))).put none undef := by kernel_rfl
    rw [size2, he] at hfin
    rw [hfin]
    obtain ⟨k1, k2⟩ := hW.2.1 (hall 4 (by rw [size2]; omega))
    rw [hall 5 (by rw [size2]; omega), if_pos rfl] at k2
    exact hQ t w' hW.1 k1 ((cell_of_row _ _ 0 _ _ _ k2).trans rfl)
noncomputable def ops5 : Array Oper := (Try.f3.body.bind (regOps 5)).getD #[]
theorem size5 : ops5.size = 9 := by kernel_rfl
noncomputable def V5 (a0 a1 y0 : Nat) (i : Nat) : Value := [.agg #[.float .f64 (y0)], .float .f64 (a1), .agg #[.float .f64 (a1)], .agg #[.float .f64 (cs (y0) (a1))], .float .f64 (cs (y0) (a1)), .agg #[.float .f64 (y0)], .float .f64 (y0), .bool true, .bool false].getD i undef
theorem reg5 {id : Nat} {a00 : Act} {Q : Exit → Act → World → Prop} (w1 : World) (b c a0 a1 y0 : Nat) (hx0' : a0 < 18446744073709551616) (hx1' : a1 < 18446744073709551616) (hy0' : y0 < 18446744073709551616) (hs : a00.tmps.size = 47)
    (h5 : a00.eval (.tmp 5) = .pointer (some ⟨b, 0, none⟩)) (h6 : a00.eval (.tmp 6) = .pointer (some ⟨c, 0, none⟩)) (h1 : a00.eval (.tmp 1) = .float .f64 a1) (kb : w1.cell? ⟨b, 0, none⟩ = some (.float .f64 a0)) (kc : w1.cell? ⟨c, 0, none⟩ = some (.float .f64 y0)) (hsame : ∀ w, Calls Try.prog 7 #[.float .f64 (cs (y0) (a1)), .float .f64 (y0)] w fun e w' => e = .returned (.bool true) ∧ w = w')
    (hQ : ∀ (w' : World), Below w1.heap.size w1 w' → Q .normal (((((((((a00.put (some 20) (.agg #[.float .f64 (y0)])).put (some 21) (.float .f64 (a1))).put (some 22) (.agg #[.float .f64 (a1)])).put (some 23) (.agg #[.float .f64 (cs (y0) (a1))])).put (some 24) (.float .f64 (cs (y0) (a1)))).put (some 25) (.agg #[.float .f64 (y0)])).put (some 26) (.float .f64 (y0))).put (some 27) (.bool true)).put (some 28) (.bool false)) w') :
    (Code.region id ops5 true).wp Try.prog Q a00 w1 := by
  refine wp_region_sl (Θ := Unit) (by kernel_rfl) (fun _ => V5 a0 a1 y0) (fun _ _ w' => Below w1.heap.size w1 w') (by kernel_rfl) (by rw [hs]; kernel_rfl) () (Below.refl _ _).drew ?_ ?_
  · intro i o t L ac w' ho hL hu hall hS hW
    have hi : i < 9 := by rw [← size5]; exact (Array.getElem?_eq_some_iff.1 ho).1
    have rcs : i = 0 ∨ i = 1 ∨ i = 2 ∨ i = 3 ∨ i = 4 ∨ i = 5 ∨ i = 6 ∨ i = 7 ∨ i = 8 := by omega
    rcases rcs with rfl | rfl | rfl | rfl | rfl | rfl | rfl | rfl | rfl
    · have ho1 := at_op (q := Op.load 24 (Operand.tmp 6)) (by kernel_rfl) ho
      have hx : ac.eval (.tmp 6) = .pointer (some ⟨c, 0, none⟩) := (hS.out (by kernel_rfl)).trans h6
      have hc : w'.cell? ⟨c, 0, none⟩ = some (.float .f64 y0) := (hW.cell (p := ⟨c, 0, none⟩) (block_lt_of_cell kc)).trans kc
      refine pure_op (t := t) (V := fun _ => V5 a0 a1 y0) (W := fun _ _ w' => Below w1.heap.size w1 w') (v := .agg #[.float .f64 (y0)]) ?_ rfl hW
      unfold execOp
      simp only [ho1, hx]
      go_simp
    · have ho1 := at_op (q := Op.move (Operand.tmp 1)) (by kernel_rfl) ho
      have hx : ac.eval (.tmp 1) = .float .f64 a1 := (hS.out (by kernel_rfl)).trans h1
      exact pure_op (t := t) (V := fun _ => V5 a0 a1 y0) (W := fun _ _ w' => Below w1.heap.size w1 w') (v := .float .f64 (a1)) (k_move _ ho1 hx) rfl hW
    · have ho1 := at_op (q := Op.call { callee := Callee.value (Operand.func 5), args := #[Operand.tmp 21], argTypes := #[22] }) (by kernel_rfl) ho
      have hx0 : ac.eval (.tmp 21) = .float .f64 (a1) := hS.arg (p := 1) (d := 21) ho hall (by kernel_rfl) (by kernel_rfl)
      have hrun : (execOp ac.eval o).run Try.prog w' = .ok (.enter 5 #[.float .f64 (a1)]) w' := by
        unfold execOp
        simp only [ho1, List.map_toArray, List.map_cons, List.map_nil, hx0]
        go_simp
        first | done | (simpa [Act.eval] using hx0) | exact ⟨by simpa [Act.eval] using hx0, by simpa [Act.eval] using hx1⟩
      refine k_call hrun (R := fun v w2 => v = .agg #[.float .f64 (a1)] ∧ Below w'.heap.size w' w2) ((new (a1) w').mono fun e w2 hh => ⟨_, hh.1, rfl, hh.2⟩) ?_
      rintro v w2 ⟨rfl, hb⟩
      exact ⟨(), rfl, fun _ _ => rfl, hW.trans (hb.mono hW.size)⟩
    · have ho1 := at_op (q := Op.call { callee := Callee.value (Operand.func 6), args := #[Operand.tmp 20, Operand.tmp 22], argTypes := #[24, 24] }) (by kernel_rfl) ho
      have hx0 : ac.eval (.tmp 20) = .agg #[.float .f64 (y0)] := hS.arg (p := 0) (d := 20) ho hall (by kernel_rfl) (by kernel_rfl)
      have hx1 : ac.eval (.tmp 22) = .agg #[.float .f64 (a1)] := hS.arg (p := 2) (d := 22) ho hall (by kernel_rfl) (by kernel_rfl)
      have hrun : (execOp ac.eval o).run Try.prog w' = .ok (.enter 6 #[.agg #[.float .f64 (y0)], .agg #[.float .f64 (a1)]]) w' := by
        unfold execOp
        simp only [ho1, List.map_toArray, List.map_cons, List.map_nil, hx0, hx1]
        go_simp
        first | done | (simpa [Act.eval] using hx0) | exact ⟨by simpa [Act.eval] using hx0, by simpa [Act.eval] using hx1⟩
      refine k_call hrun (R := fun v w2 => v = .agg #[.float .f64 (cs (y0) (a1))] ∧ Below w'.heap.size w' w2) ((copysign (y0) (a1) (by first | assumption | decide | exact cs_lt _ _ (by first | assumption | decide)) (by first | assumption | decide) w').mono fun e w2 hh => ⟨_, hh.1, rfl, hh.2⟩) ?_
      rintro v w2 ⟨rfl, hb⟩
      exact ⟨(), rfl, fun _ _ => rfl, hW.trans (hb.mono hW.size)⟩
    · have ho1 := at_op (q := Op.call { callee := Callee.value (Operand.func 8), args := #[Operand.tmp 23], argTypes := #[24] }) (by kernel_rfl) ho
      have hx0 : ac.eval (.tmp 23) = .agg #[.float .f64 (cs (y0) (a1))] := hS.arg (p := 3) (d := 23) ho hall (by kernel_rfl) (by kernel_rfl)
      have hrun : (execOp ac.eval o).run Try.prog w' = .ok (.enter 8 #[.agg #[.float .f64 (cs (y0) (a1))]]) w' := by
        unfold execOp
        simp only [ho1, List.map_toArray, List.map_cons, List.map_nil, hx0]
        go_simp
        first | done | (simpa [Act.eval] using hx0) | exact ⟨by simpa [Act.eval] using hx0, by simpa [Act.eval] using hx1⟩
      refine k_call hrun (R := fun v w2 => v = .float .f64 (cs (y0) (a1)) ∧ Below w'.heap.size w' w2) ((value (cs (y0) (a1)) w').mono fun e w2 hh => ⟨_, hh.1, rfl, hh.2⟩) ?_
      rintro v w2 ⟨rfl, hb⟩
      exact ⟨(), rfl, fun _ _ => rfl, hW.trans (hb.mono hW.size)⟩
    · have ho1 := at_op (q := Op.load 24 (Operand.tmp 6)) (by kernel_rfl) ho
      have hx : ac.eval (.tmp 6) = .pointer (some ⟨c, 0, none⟩) := (hS.out (by kernel_rfl)).trans h6
      have hc : w'.cell? ⟨c, 0, none⟩ = some (.float .f64 y0) := (hW.cell (p := ⟨c, 0, none⟩) (block_lt_of_cell kc)).trans kc
      refine pure_op (t := t) (V := fun _ => V5 a0 a1 y0) (W := fun _ _ w' => Below w1.heap.size w1 w') (v := .agg #[.float .f64 (y0)]) ?_ rfl hW
      unfold execOp
      simp only [ho1, hx]
      go_simp
    · have ho1 := at_op (q := Op.call { callee := Callee.value (Operand.func 8), args := #[Operand.tmp 25], argTypes := #[24] }) (by kernel_rfl) ho
      have hx0 : ac.eval (.tmp 25) = .agg #[.float .f64 (y0)] := hS.arg (p := 5) (d := 25) ho hall (by kernel_rfl) (by kernel_rfl)
      have hrun : (execOp ac.eval o).run Try.prog w' = .ok (.enter 8 #[.agg #[.float .f64 (y0)]]) w' := by
        unfold execOp
        simp only [ho1, List.map_toArray, List.map_cons, List.map_nil, hx0]
        go_simp
        first | done | (simpa [Act.eval] using hx0) | exact ⟨by simpa [Act.eval] using hx0, by simpa [Act.eval] using hx1⟩
      refine k_call hrun (R := fun v w2 => v = .float .f64 (y0) ∧ Below w'.heap.size w' w2) ((value (y0) w').mono fun e w2 hh => ⟨_, hh.1, rfl, hh.2⟩) ?_
      rintro v w2 ⟨rfl, hb⟩
      exact ⟨(), rfl, fun _ _ => rfl, hW.trans (hb.mono hW.size)⟩
    · have ho1 := at_op (q := Op.call { callee := Callee.value (Operand.func 7), args := #[Operand.tmp 24, Operand.tmp 26], argTypes := #[22, 22] }) (by kernel_rfl) ho
      have hx0 : ac.eval (.tmp 24) = .float .f64 (cs (y0) (a1)) := hS.arg (p := 4) (d := 24) ho hall (by kernel_rfl) (by kernel_rfl)
      have hx1 : ac.eval (.tmp 26) = .float .f64 (y0) := hS.arg (p := 6) (d := 26) ho hall (by kernel_rfl) (by kernel_rfl)
      have hrun : (execOp ac.eval o).run Try.prog w' = .ok (.enter 7 #[.float .f64 (cs (y0) (a1)), .float .f64 (y0)]) w' := by
        unfold execOp
        simp only [ho1, List.map_toArray, List.map_cons, List.map_nil, hx0, hx1]
        go_simp
        first | done | (simpa [Act.eval] using hx0) | exact ⟨by simpa [Act.eval] using hx0, by simpa [Act.eval] using hx1⟩
      refine k_call hrun (R := fun v w2 => v = .bool true ∧ Below w'.heap.size w' w2) ((hsame w').mono fun e w2 hh => ⟨_, hh.1, rfl, by rw [← hh.2]; exact Below.refl _ _⟩) ?_
      rintro v w2 ⟨rfl, hb⟩
      exact ⟨(), rfl, fun _ _ => rfl, hW.trans (hb.mono hW.size)⟩
    · have ho1 := at_op (q := Op.unOp UnOp.not 4 (Operand.tmp 27)) (by kernel_rfl) ho
      have hx : ac.eval (.tmp 27) = .bool true := hS.arg (p := 7) (d := 27) ho hall (by kernel_rfl) (by kernel_rfl)
      refine pure_op (t := t) (V := fun _ => V5 a0 a1 y0) (W := fun _ _ w' => Below w1.heap.size w1 w') (v := .bool false) ?_ rfl hW
      unfold execOp
      simp only [ho1, hx]
      go_simp
  · intro t L ac w' hall hS hW
    have hfin := hS.final (by rw [hs]; kernel_rfl) hall
    have he : finAct ops5 (V5 a0 a1 y0) a00 9 = (((((((((a00.put (some 20) (.agg #[.float .f64 (y0)])).put (some 21) (.float .f64 (a1))).put (some 22) (.agg #[.float .f64 (a1)])).put (some 23) (.agg #[.float .f64 (cs (y0) (a1))])).put (some 24) (.float .f64 (cs (y0) (a1)))).put (some 25) (.agg #[.float .f64 (y0)])).put (some 26) (.float .f64 (y0))).put (some 27) (.bool true)).put (some 28) (.bool false)) := by kernel_rfl
    rw [size5, he] at hfin
    rw [hfin]
    exact hQ w' hW
noncomputable def ops7 : Array Oper := (Try.f3.body.bind (regOps 7)).getD #[]
theorem size7 : ops7.size = 9 := by kernel_rfl
noncomputable def V7 (a0 a1 y0 : Nat) (i : Nat) : Value := [.agg #[.float .f64 (a0)], .agg #[.float .f64 (4607182418800017408)], .agg #[.float .f64 (cs (a0) (4607182418800017408))], .float .f64 (cs (a0) (4607182418800017408)), .agg #[.float .f64 (a0)], .agg #[.float .f64 (cs (a0) 0)], .float .f64 (cs (a0) 0), .bool true, .bool false].getD i undef
theorem reg7 {id : Nat} {a00 : Act} {Q : Exit → Act → World → Prop} (w1 : World) (b c a0 a1 y0 : Nat) (hx0' : a0 < 18446744073709551616) (hx1' : a1 < 18446744073709551616) (hy0' : y0 < 18446744073709551616) (hs : a00.tmps.size = 47)
    (h5 : a00.eval (.tmp 5) = .pointer (some ⟨b, 0, none⟩)) (h6 : a00.eval (.tmp 6) = .pointer (some ⟨c, 0, none⟩)) (h1 : a00.eval (.tmp 1) = .float .f64 a1) (kb : w1.cell? ⟨b, 0, none⟩ = some (.float .f64 a0)) (kc : w1.cell? ⟨c, 0, none⟩ = some (.float .f64 y0)) (hsame : ∀ w, Calls Try.prog 7 #[.float .f64 (cs (a0) (4607182418800017408)), .float .f64 (cs (a0) 0)] w fun e w' => e = .returned (.bool true) ∧ w = w')
    (hQ : ∀ (w' : World), Below w1.heap.size w1 w' → Q .normal (((((((((a00.put (some 29) (.agg #[.float .f64 (a0)])).put (some 30) (.agg #[.float .f64 (4607182418800017408)])).put (some 31) (.agg #[.float .f64 (cs (a0) (4607182418800017408))])).put (some 32) (.float .f64 (cs (a0) (4607182418800017408)))).put (some 33) (.agg #[.float .f64 (a0)])).put (some 34) (.agg #[.float .f64 (cs (a0) 0)])).put (some 35) (.float .f64 (cs (a0) 0))).put (some 36) (.bool true)).put (some 37) (.bool false)) w') :
    (Code.region id ops7 true).wp Try.prog Q a00 w1 := by
  refine wp_region_sl (Θ := Unit) (by kernel_rfl) (fun _ => V7 a0 a1 y0) (fun _ _ w' => Below w1.heap.size w1 w') (by kernel_rfl) (by rw [hs]; kernel_rfl) () (Below.refl _ _).drew ?_ ?_
  · intro i o t L ac w' ho hL hu hall hS hW
    have hi : i < 9 := by rw [← size7]; exact (Array.getElem?_eq_some_iff.1 ho).1
    have rcs : i = 0 ∨ i = 1 ∨ i = 2 ∨ i = 3 ∨ i = 4 ∨ i = 5 ∨ i = 6 ∨ i = 7 ∨ i = 8 := by omega
    rcases rcs with rfl | rfl | rfl | rfl | rfl | rfl | rfl | rfl | rfl
    · have ho1 := at_op (q := Op.load 24 (Operand.tmp 5)) (by kernel_rfl) ho
      have hx : ac.eval (.tmp 5) = .pointer (some ⟨b, 0, none⟩) := (hS.out (by kernel_rfl)).trans h5
      have hc : w'.cell? ⟨b, 0, none⟩ = some (.float .f64 a0) := (hW.cell (p := ⟨b, 0, none⟩) (block_lt_of_cell kb)).trans kb
      refine pure_op (t := t) (V := fun _ => V7 a0 a1 y0) (W := fun _ _ w' => Below w1.heap.size w1 w') (v := .agg #[.float .f64 (a0)]) ?_ rfl hW
      unfold execOp
      simp only [ho1, hx]
      go_simp
    · have ho1 := at_op (q := Op.call { callee := Callee.value (Operand.func 5), args := #[Operand.const (Value.float FloatKind.f64 4607182418800017408)], argTypes := #[22] }) (by kernel_rfl) ho
      have hrun : (execOp ac.eval o).run Try.prog w' = .ok (.enter 5 #[.float .f64 (4607182418800017408)]) w' := by
        unfold execOp
        simp only [ho1, List.map_toArray, List.map_cons, List.map_nil]
        go_simp
        skip
      refine k_call hrun (R := fun v w2 => v = .agg #[.float .f64 (4607182418800017408)] ∧ Below w'.heap.size w' w2) ((new (4607182418800017408) w').mono fun e w2 hh => ⟨_, hh.1, rfl, hh.2⟩) ?_
      rintro v w2 ⟨rfl, hb⟩
      exact ⟨(), rfl, fun _ _ => rfl, hW.trans (hb.mono hW.size)⟩
    · have ho1 := at_op (q := Op.call { callee := Callee.value (Operand.func 6), args := #[Operand.tmp 29, Operand.tmp 30], argTypes := #[24, 24] }) (by kernel_rfl) ho
      have hx0 : ac.eval (.tmp 29) = .agg #[.float .f64 (a0)] := hS.arg (p := 0) (d := 29) ho hall (by kernel_rfl) (by kernel_rfl)
      have hx1 : ac.eval (.tmp 30) = .agg #[.float .f64 (4607182418800017408)] := hS.arg (p := 1) (d := 30) ho hall (by kernel_rfl) (by kernel_rfl)
      have hrun : (execOp ac.eval o).run Try.prog w' = .ok (.enter 6 #[.agg #[.float .f64 (a0)], .agg #[.float .f64 (4607182418800017408)]]) w' := by
        unfold execOp
        simp only [ho1, List.map_toArray, List.map_cons, List.map_nil, hx0, hx1]
        go_simp
        first | done | (simpa [Act.eval] using hx0) | exact ⟨by simpa [Act.eval] using hx0, by simpa [Act.eval] using hx1⟩
      refine k_call hrun (R := fun v w2 => v = .agg #[.float .f64 (cs (a0) (4607182418800017408))] ∧ Below w'.heap.size w' w2) ((copysign (a0) (4607182418800017408) (by first | assumption | decide | exact cs_lt _ _ (by first | assumption | decide)) (by first | assumption | decide) w').mono fun e w2 hh => ⟨_, hh.1, rfl, hh.2⟩) ?_
      rintro v w2 ⟨rfl, hb⟩
      exact ⟨(), rfl, fun _ _ => rfl, hW.trans (hb.mono hW.size)⟩
    · have ho1 := at_op (q := Op.call { callee := Callee.value (Operand.func 8), args := #[Operand.tmp 31], argTypes := #[24] }) (by kernel_rfl) ho
      have hx0 : ac.eval (.tmp 31) = .agg #[.float .f64 (cs (a0) (4607182418800017408))] := hS.arg (p := 2) (d := 31) ho hall (by kernel_rfl) (by kernel_rfl)
      have hrun : (execOp ac.eval o).run Try.prog w' = .ok (.enter 8 #[.agg #[.float .f64 (cs (a0) (4607182418800017408))]]) w' := by
        unfold execOp
        simp only [ho1, List.map_toArray, List.map_cons, List.map_nil, hx0]
        go_simp
        first | done | (simpa [Act.eval] using hx0) | exact ⟨by simpa [Act.eval] using hx0, by simpa [Act.eval] using hx1⟩
      refine k_call hrun (R := fun v w2 => v = .float .f64 (cs (a0) (4607182418800017408)) ∧ Below w'.heap.size w' w2) ((value (cs (a0) (4607182418800017408)) w').mono fun e w2 hh => ⟨_, hh.1, rfl, hh.2⟩) ?_
      rintro v w2 ⟨rfl, hb⟩
      exact ⟨(), rfl, fun _ _ => rfl, hW.trans (hb.mono hW.size)⟩
    · have ho1 := at_op (q := Op.load 24 (Operand.tmp 5)) (by kernel_rfl) ho
      have hx : ac.eval (.tmp 5) = .pointer (some ⟨b, 0, none⟩) := (hS.out (by kernel_rfl)).trans h5
      have hc : w'.cell? ⟨b, 0, none⟩ = some (.float .f64 a0) := (hW.cell (p := ⟨b, 0, none⟩) (block_lt_of_cell kb)).trans kb
      refine pure_op (t := t) (V := fun _ => V7 a0 a1 y0) (W := fun _ _ w' => Below w1.heap.size w1 w') (v := .agg #[.float .f64 (a0)]) ?_ rfl hW
      unfold execOp
      simp only [ho1, hx]
      go_simp
    · have ho1 := at_op (q := Op.call { callee := Callee.value (Operand.func 9), args := #[Operand.tmp 33], argTypes := #[24] }) (by kernel_rfl) ho
      have hx0 : ac.eval (.tmp 33) = .agg #[.float .f64 (a0)] := hS.arg (p := 4) (d := 33) ho hall (by kernel_rfl) (by kernel_rfl)
      have hrun : (execOp ac.eval o).run Try.prog w' = .ok (.enter 9 #[.agg #[.float .f64 (a0)]]) w' := by
        unfold execOp
        simp only [ho1, List.map_toArray, List.map_cons, List.map_nil, hx0]
        go_simp
        first | done | (simpa [Act.eval] using hx0) | exact ⟨by simpa [Act.eval] using hx0, by simpa [Act.eval] using hx1⟩
      refine k_call hrun (R := fun v w2 => v = .agg #[.float .f64 (cs (a0) 0)] ∧ Below w'.heap.size w' w2) ((abs (a0) hx0' w').mono fun e w2 hh => ⟨_, hh.1, rfl, hh.2⟩) ?_
      rintro v w2 ⟨rfl, hb⟩
      exact ⟨(), rfl, fun _ _ => rfl, hW.trans (hb.mono hW.size)⟩
    · have ho1 := at_op (q := Op.call { callee := Callee.value (Operand.func 8), args := #[Operand.tmp 34], argTypes := #[24] }) (by kernel_rfl) ho
      have hx0 : ac.eval (.tmp 34) = .agg #[.float .f64 (cs (a0) 0)] := hS.arg (p := 5) (d := 34) ho hall (by kernel_rfl) (by kernel_rfl)
      have hrun : (execOp ac.eval o).run Try.prog w' = .ok (.enter 8 #[.agg #[.float .f64 (cs (a0) 0)]]) w' := by
        unfold execOp
        simp only [ho1, List.map_toArray, List.map_cons, List.map_nil, hx0]
        go_simp
        first | done | (simpa [Act.eval] using hx0) | exact ⟨by simpa [Act.eval] using hx0, by simpa [Act.eval] using hx1⟩
      refine k_call hrun (R := fun v w2 => v = .float .f64 (cs (a0) 0) ∧ Below w'.heap.size w' w2) ((value (cs (a0) 0) w').mono fun e w2 hh => ⟨_, hh.1, rfl, hh.2⟩) ?_
      rintro v w2 ⟨rfl, hb⟩
      exact ⟨(), rfl, fun _ _ => rfl, hW.trans (hb.mono hW.size)⟩
    · have ho1 := at_op (q := Op.call { callee := Callee.value (Operand.func 7), args := #[Operand.tmp 32, Operand.tmp 35], argTypes := #[22, 22] }) (by kernel_rfl) ho
      have hx0 : ac.eval (.tmp 32) = .float .f64 (cs (a0) (4607182418800017408)) := hS.arg (p := 3) (d := 32) ho hall (by kernel_rfl) (by kernel_rfl)
      have hx1 : ac.eval (.tmp 35) = .float .f64 (cs (a0) 0) := hS.arg (p := 6) (d := 35) ho hall (by kernel_rfl) (by kernel_rfl)
      have hrun : (execOp ac.eval o).run Try.prog w' = .ok (.enter 7 #[.float .f64 (cs (a0) (4607182418800017408)), .float .f64 (cs (a0) 0)]) w' := by
        unfold execOp
        simp only [ho1, List.map_toArray, List.map_cons, List.map_nil, hx0, hx1]
        go_simp
        first | done | (simpa [Act.eval] using hx0) | exact ⟨by simpa [Act.eval] using hx0, by simpa [Act.eval] using hx1⟩
      refine k_call hrun (R := fun v w2 => v = .bool true ∧ Below w'.heap.size w' w2) ((hsame w').mono fun e w2 hh => ⟨_, hh.1, rfl, by rw [← hh.2]; exact Below.refl _ _⟩) ?_
      rintro v w2 ⟨rfl, hb⟩
      exact ⟨(), rfl, fun _ _ => rfl, hW.trans (hb.mono hW.size)⟩
    · have ho1 := at_op (q := Op.unOp UnOp.not 4 (Operand.tmp 36)) (by kernel_rfl) ho
      have hx : ac.eval (.tmp 36) = .bool true := hS.arg (p := 7) (d := 36) ho hall (by kernel_rfl) (by kernel_rfl)
      refine pure_op (t := t) (V := fun _ => V7 a0 a1 y0) (W := fun _ _ w' => Below w1.heap.size w1 w') (v := .bool false) ?_ rfl hW
      unfold execOp
      simp only [ho1, hx]
      go_simp
  · intro t L ac w' hall hS hW
    have hfin := hS.final (by rw [hs]; kernel_rfl) hall
    have he : finAct ops7 (V7 a0 a1 y0) a00 9 = (((((((((a00.put (some 29) (.agg #[.float .f64 (a0)])).put (some 30) (.agg #[.float .f64 (4607182418800017408)])).put (some 31) (.agg #[.float .f64 (cs (a0) (4607182418800017408))])).put (some 32) (.float .f64 (cs (a0) (4607182418800017408)))).put (some 33) (.agg #[.float .f64 (a0)])).put (some 34) (.agg #[.float .f64 (cs (a0) 0)])).put (some 35) (.float .f64 (cs (a0) 0))).put (some 36) (.bool true)).put (some 37) (.bool false)) := by kernel_rfl
    rw [size7, he] at hfin
    rw [hfin]
    exact hQ w' hW
noncomputable def ops9 : Array Oper := (Try.f3.body.bind (regOps 9)).getD #[]
theorem size9 : ops9.size = 10 := by kernel_rfl
noncomputable def V9 (a0 a1 y0 : Nat) (i : Nat) : Value := [.agg #[.float .f64 (a0)], .agg #[.float .f64 (13830554455654793216)], .agg #[.float .f64 (cs (a0) (13830554455654793216))], .float .f64 (cs (a0) (13830554455654793216)), .agg #[.float .f64 (a0)], .agg #[.float .f64 (cs (a0) 0)], .agg #[.float .f64 (Op.negFloat .f64 (cs (a0) 0))], .float .f64 (Op.negFloat .f64 (cs (a0) 0)), .bool true, .bool true].getD i undef
theorem reg9 {id : Nat} {a00 : Act} {Q : Exit → Act → World → Prop} (w1 : World) (b c a0 a1 y0 : Nat) (hx0' : a0 < 18446744073709551616) (hx1' : a1 < 18446744073709551616) (hy0' : y0 < 18446744073709551616) (hs : a00.tmps.size = 47)
    (h5 : a00.eval (.tmp 5) = .pointer (some ⟨b, 0, none⟩)) (h6 : a00.eval (.tmp 6) = .pointer (some ⟨c, 0, none⟩)) (h1 : a00.eval (.tmp 1) = .float .f64 a1) (kb : w1.cell? ⟨b, 0, none⟩ = some (.float .f64 a0)) (kc : w1.cell? ⟨c, 0, none⟩ = some (.float .f64 y0)) (hsame : ∀ w, Calls Try.prog 7 #[.float .f64 (cs (a0) (13830554455654793216)), .float .f64 (Op.negFloat .f64 (cs (a0) 0))] w fun e w' => e = .returned (.bool true) ∧ w = w')
    (hQ : ∀ (w' : World), Below w1.heap.size w1 w' → Q .normal ((((((((((a00.put (some 38) (.agg #[.float .f64 (a0)])).put (some 39) (.agg #[.float .f64 (13830554455654793216)])).put (some 40) (.agg #[.float .f64 (cs (a0) (13830554455654793216))])).put (some 41) (.float .f64 (cs (a0) (13830554455654793216)))).put (some 42) (.agg #[.float .f64 (a0)])).put (some 43) (.agg #[.float .f64 (cs (a0) 0)])).put (some 44) (.agg #[.float .f64 (Op.negFloat .f64 (cs (a0) 0))])).put (some 45) (.float .f64 (Op.negFloat .f64 (cs (a0) 0)))).put (some 46) (.bool true)).put (some 4) (.bool true)) w') :
    (Code.region id ops9 true).wp Try.prog Q a00 w1 := by
  refine wp_region_sl (Θ := Unit) (by kernel_rfl) (fun _ => V9 a0 a1 y0) (fun _ _ w' => Below w1.heap.size w1 w') (by kernel_rfl) (by rw [hs]; kernel_rfl) () (Below.refl _ _).drew ?_ ?_
  · intro i o t L ac w' ho hL hu hall hS hW
    have hi : i < 10 := by rw [← size9]; exact (Array.getElem?_eq_some_iff.1 ho).1
    have rcs : i = 0 ∨ i = 1 ∨ i = 2 ∨ i = 3 ∨ i = 4 ∨ i = 5 ∨ i = 6 ∨ i = 7 ∨ i = 8 ∨ i = 9 := by omega
    rcases rcs with rfl | rfl | rfl | rfl | rfl | rfl | rfl | rfl | rfl | rfl
    · have ho1 := at_op (q := Op.load 24 (Operand.tmp 5)) (by kernel_rfl) ho
      have hx : ac.eval (.tmp 5) = .pointer (some ⟨b, 0, none⟩) := (hS.out (by kernel_rfl)).trans h5
      have hc : w'.cell? ⟨b, 0, none⟩ = some (.float .f64 a0) := (hW.cell (p := ⟨b, 0, none⟩) (block_lt_of_cell kb)).trans kb
      refine pure_op (t := t) (V := fun _ => V9 a0 a1 y0) (W := fun _ _ w' => Below w1.heap.size w1 w') (v := .agg #[.float .f64 (a0)]) ?_ rfl hW
      unfold execOp
      simp only [ho1, hx]
      go_simp
    · have ho1 := at_op (q := Op.call { callee := Callee.value (Operand.func 5), args := #[Operand.const (Value.float FloatKind.f64 13830554455654793216)], argTypes := #[22] }) (by kernel_rfl) ho
      have hrun : (execOp ac.eval o).run Try.prog w' = .ok (.enter 5 #[.float .f64 (13830554455654793216)]) w' := by
        unfold execOp
        simp only [ho1, List.map_toArray, List.map_cons, List.map_nil]
        go_simp
        skip
      refine k_call hrun (R := fun v w2 => v = .agg #[.float .f64 (13830554455654793216)] ∧ Below w'.heap.size w' w2) ((new (13830554455654793216) w').mono fun e w2 hh => ⟨_, hh.1, rfl, hh.2⟩) ?_
      rintro v w2 ⟨rfl, hb⟩
      exact ⟨(), rfl, fun _ _ => rfl, hW.trans (hb.mono hW.size)⟩
    · have ho1 := at_op (q := Op.call { callee := Callee.value (Operand.func 6), args := #[Operand.tmp 38, Operand.tmp 39], argTypes := #[24, 24] }) (by kernel_rfl) ho
      have hx0 : ac.eval (.tmp 38) = .agg #[.float .f64 (a0)] := hS.arg (p := 0) (d := 38) ho hall (by kernel_rfl) (by kernel_rfl)
      have hx1 : ac.eval (.tmp 39) = .agg #[.float .f64 (13830554455654793216)] := hS.arg (p := 1) (d := 39) ho hall (by kernel_rfl) (by kernel_rfl)
      have hrun : (execOp ac.eval o).run Try.prog w' = .ok (.enter 6 #[.agg #[.float .f64 (a0)], .agg #[.float .f64 (13830554455654793216)]]) w' := by
        unfold execOp
        simp only [ho1, List.map_toArray, List.map_cons, List.map_nil, hx0, hx1]
        go_simp
        first | done | (simpa [Act.eval] using hx0) | exact ⟨by simpa [Act.eval] using hx0, by simpa [Act.eval] using hx1⟩
      refine k_call hrun (R := fun v w2 => v = .agg #[.float .f64 (cs (a0) (13830554455654793216))] ∧ Below w'.heap.size w' w2) ((copysign (a0) (13830554455654793216) (by first | assumption | decide | exact cs_lt _ _ (by first | assumption | decide)) (by first | assumption | decide) w').mono fun e w2 hh => ⟨_, hh.1, rfl, hh.2⟩) ?_
      rintro v w2 ⟨rfl, hb⟩
      exact ⟨(), rfl, fun _ _ => rfl, hW.trans (hb.mono hW.size)⟩
    · have ho1 := at_op (q := Op.call { callee := Callee.value (Operand.func 8), args := #[Operand.tmp 40], argTypes := #[24] }) (by kernel_rfl) ho
      have hx0 : ac.eval (.tmp 40) = .agg #[.float .f64 (cs (a0) (13830554455654793216))] := hS.arg (p := 2) (d := 40) ho hall (by kernel_rfl) (by kernel_rfl)
      have hrun : (execOp ac.eval o).run Try.prog w' = .ok (.enter 8 #[.agg #[.float .f64 (cs (a0) (13830554455654793216))]]) w' := by
        unfold execOp
        simp only [ho1, List.map_toArray, List.map_cons, List.map_nil, hx0]
        go_simp
        first | done | (simpa [Act.eval] using hx0) | exact ⟨by simpa [Act.eval] using hx0, by simpa [Act.eval] using hx1⟩
      refine k_call hrun (R := fun v w2 => v = .float .f64 (cs (a0) (13830554455654793216)) ∧ Below w'.heap.size w' w2) ((value (cs (a0) (13830554455654793216)) w').mono fun e w2 hh => ⟨_, hh.1, rfl, hh.2⟩) ?_
      rintro v w2 ⟨rfl, hb⟩
      exact ⟨(), rfl, fun _ _ => rfl, hW.trans (hb.mono hW.size)⟩
    · have ho1 := at_op (q := Op.load 24 (Operand.tmp 5)) (by kernel_rfl) ho
      have hx : ac.eval (.tmp 5) = .pointer (some ⟨b, 0, none⟩) := (hS.out (by kernel_rfl)).trans h5
      have hc : w'.cell? ⟨b, 0, none⟩ = some (.float .f64 a0) := (hW.cell (p := ⟨b, 0, none⟩) (block_lt_of_cell kb)).trans kb
      refine pure_op (t := t) (V := fun _ => V9 a0 a1 y0) (W := fun _ _ w' => Below w1.heap.size w1 w') (v := .agg #[.float .f64 (a0)]) ?_ rfl hW
      unfold execOp
      simp only [ho1, hx]
      go_simp
    · have ho1 := at_op (q := Op.call { callee := Callee.value (Operand.func 9), args := #[Operand.tmp 42], argTypes := #[24] }) (by kernel_rfl) ho
      have hx0 : ac.eval (.tmp 42) = .agg #[.float .f64 (a0)] := hS.arg (p := 4) (d := 42) ho hall (by kernel_rfl) (by kernel_rfl)
      have hrun : (execOp ac.eval o).run Try.prog w' = .ok (.enter 9 #[.agg #[.float .f64 (a0)]]) w' := by
        unfold execOp
        simp only [ho1, List.map_toArray, List.map_cons, List.map_nil, hx0]
        go_simp
        first | done | (simpa [Act.eval] using hx0) | exact ⟨by simpa [Act.eval] using hx0, by simpa [Act.eval] using hx1⟩
      refine k_call hrun (R := fun v w2 => v = .agg #[.float .f64 (cs (a0) 0)] ∧ Below w'.heap.size w' w2) ((abs (a0) hx0' w').mono fun e w2 hh => ⟨_, hh.1, rfl, hh.2⟩) ?_
      rintro v w2 ⟨rfl, hb⟩
      exact ⟨(), rfl, fun _ _ => rfl, hW.trans (hb.mono hW.size)⟩
    · have ho1 := at_op (q := Op.call { callee := Callee.value (Operand.func 10), args := #[Operand.tmp 43], argTypes := #[24] }) (by kernel_rfl) ho
      have hx0 : ac.eval (.tmp 43) = .agg #[.float .f64 (cs (a0) 0)] := hS.arg (p := 5) (d := 43) ho hall (by kernel_rfl) (by kernel_rfl)
      have hrun : (execOp ac.eval o).run Try.prog w' = .ok (.enter 10 #[.agg #[.float .f64 (cs (a0) 0)]]) w' := by
        unfold execOp
        simp only [ho1, List.map_toArray, List.map_cons, List.map_nil, hx0]
        go_simp
        first | done | (simpa [Act.eval] using hx0) | exact ⟨by simpa [Act.eval] using hx0, by simpa [Act.eval] using hx1⟩
      refine k_call hrun (R := fun v w2 => v = .agg #[.float .f64 (Op.negFloat .f64 (cs (a0) 0))] ∧ Below w'.heap.size w' w2) ((neg (cs (a0) 0) w').mono fun e w2 hh => ⟨_, hh.1, rfl, hh.2⟩) ?_
      rintro v w2 ⟨rfl, hb⟩
      exact ⟨(), rfl, fun _ _ => rfl, hW.trans (hb.mono hW.size)⟩
    · have ho1 := at_op (q := Op.call { callee := Callee.value (Operand.func 8), args := #[Operand.tmp 44], argTypes := #[24] }) (by kernel_rfl) ho
      have hx0 : ac.eval (.tmp 44) = .agg #[.float .f64 (Op.negFloat .f64 (cs (a0) 0))] := hS.arg (p := 6) (d := 44) ho hall (by kernel_rfl) (by kernel_rfl)
      have hrun : (execOp ac.eval o).run Try.prog w' = .ok (.enter 8 #[.agg #[.float .f64 (Op.negFloat .f64 (cs (a0) 0))]]) w' := by
        unfold execOp
        simp only [ho1, List.map_toArray, List.map_cons, List.map_nil, hx0]
        go_simp
        first | done | (simpa [Act.eval] using hx0) | exact ⟨by simpa [Act.eval] using hx0, by simpa [Act.eval] using hx1⟩
      refine k_call hrun (R := fun v w2 => v = .float .f64 (Op.negFloat .f64 (cs (a0) 0)) ∧ Below w'.heap.size w' w2) ((value (Op.negFloat .f64 (cs (a0) 0)) w').mono fun e w2 hh => ⟨_, hh.1, rfl, hh.2⟩) ?_
      rintro v w2 ⟨rfl, hb⟩
      exact ⟨(), rfl, fun _ _ => rfl, hW.trans (hb.mono hW.size)⟩
    · have ho1 := at_op (q := Op.call { callee := Callee.value (Operand.func 7), args := #[Operand.tmp 41, Operand.tmp 45], argTypes := #[22, 22] }) (by kernel_rfl) ho
      have hx0 : ac.eval (.tmp 41) = .float .f64 (cs (a0) (13830554455654793216)) := hS.arg (p := 3) (d := 41) ho hall (by kernel_rfl) (by kernel_rfl)
      have hx1 : ac.eval (.tmp 45) = .float .f64 (Op.negFloat .f64 (cs (a0) 0)) := hS.arg (p := 7) (d := 45) ho hall (by kernel_rfl) (by kernel_rfl)
      have hrun : (execOp ac.eval o).run Try.prog w' = .ok (.enter 7 #[.float .f64 (cs (a0) (13830554455654793216)), .float .f64 (Op.negFloat .f64 (cs (a0) 0))]) w' := by
        unfold execOp
        simp only [ho1, List.map_toArray, List.map_cons, List.map_nil, hx0, hx1]
        go_simp
        first | done | (simpa [Act.eval] using hx0) | exact ⟨by simpa [Act.eval] using hx0, by simpa [Act.eval] using hx1⟩
      refine k_call hrun (R := fun v w2 => v = .bool true ∧ Below w'.heap.size w' w2) ((hsame w').mono fun e w2 hh => ⟨_, hh.1, rfl, by rw [← hh.2]; exact Below.refl _ _⟩) ?_
      rintro v w2 ⟨rfl, hb⟩
      exact ⟨(), rfl, fun _ _ => rfl, hW.trans (hb.mono hW.size)⟩
    · have ho1 := at_op (q := Op.assign (Operand.tmp 46)) (by kernel_rfl) ho
      have hx : ac.eval (.tmp 46) = .bool true := hS.arg (p := 8) (d := 46) ho hall (by kernel_rfl) (by kernel_rfl)
      refine pure_op (t := t) (V := fun _ => V9 a0 a1 y0) (W := fun _ _ w' => Below w1.heap.size w1 w') (v := .bool true) ?_ rfl hW
      unfold execOp
      simp only [ho1, hx]
      go_simp
  · intro t L ac w' hall hS hW
    have hfin := hS.final (by rw [hs]; kernel_rfl) hall
    have he : finAct ops9 (V9 a0 a1 y0) a00 10 = ((((((((((a00.put (some 38) (.agg #[.float .f64 (a0)])).put (some 39) (.agg #[.float .f64 (13830554455654793216)])).put (some 40) (.agg #[.float .f64 (cs (a0) (13830554455654793216))])).put (some 41) (.float .f64 (cs (a0) (13830554455654793216)))).put (some 42) (.agg #[.float .f64 (a0)])).put (some 43) (.agg #[.float .f64 (cs (a0) 0)])).put (some 44) (.agg #[.float .f64 (Op.negFloat .f64 (cs (a0) 0))])).put (some 45) (.float .f64 (Op.negFloat .f64 (cs (a0) 0)))).put (some 46) (.bool true)).put (some 4) (.bool true)) := by kernel_rfl
    rw [size9, he] at hfin
    rw [hfin]
    exact hQ w' hW
end Go.Proofs.Ytdiadeebboojgaa.fl
