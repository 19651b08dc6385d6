/-
  Relocated declarations: the drawn append of the closure, by an invariant; the closure; a binding turned into an expression.
-/
import Derived.Test.YthhlioepgfjknaaRa
import Derived.Deep.RegionWith
namespace Go.Proofs.Ythhlioepgfjknaa.rl
open Go.ChangeShapes Go.WideShapes Go.ChangeAt Go.RowKit Go.Deep Go.Proofs.Ythhlioepgfjknaa.ch
set_option linter.unusedVariables false
set_option linter.unusedSimpArgs false
set_option maxRecDepth 100000

section
variable {P : Program} {ops : Array Oper} {Q : Exit → Act → World → Prop}

theorem count_set_true : ∀ (l : List Bool) (i : Nat), l[i]? = some false → (l.set i true).count false + 1 = l.count false
  | [], i, h => by simp at h
  | b :: l, 0, h => by
    simp only [List.getElem?_cons_zero, Option.some.injEq] at h
    subst h
    simp
  | b :: l, i + 1, h => by
    have ih := count_set_true l i (by simpa using h)
    simp only [List.set_cons_succ, List.count_cons]
    omega
theorem getD_false_of {L : Array Bool} {i : Nat} (h : L.getD i true = false) : L.toList[i]? = some false := by
  rw [Array.getElem?_toList]
  rw [Array.getD_eq_getD_getElem?] at h
  cases e : L[i]? with
  | none => simp [e] at h
  | some b => simp [e] at h; rw [h]
theorem getD_true_of {L : Array Bool} {i : Nat} (hi : i < L.size) (h : L.getD i true ≠ false) : L.getD i false = true := by
  rw [Array.getD_eq_getD_getElem?] at h ⊢
  rw [Array.getElem?_eq_getElem hi] at h ⊢
  simpa using h
/-- Every edge that binds leads backwards. -/
def backB (ops : Array Oper) : Bool := (List.range ops.size).all fun i => ((ops[i]?).map fun o => o.after.all fun e => !Region.binds .any e || decide (e.on < i)).getD true
theorem back_of (hb : backB ops = true) {i : Nat} {o : Oper} (ho : ops[i]? = some o) : ∀ e ∈ o.after, Region.binds .any e = true → e.on < i := by
  have hi : i < ops.size := (Array.getElem?_eq_some_iff.1 ho).1
  have h := List.all_eq_true.1 hb i (by simpa using hi)
  simp only [ho, Option.map_some, Option.getD_some, Array.all_eq_true_iff_forall_mem] at h
  intro e he hbd
  have := h e he
  rw [hbd] at this
  simpa using this
/-- While one has not come up, one may come up. -/
theorem ready_ne (hb : backB ops = true) {L : Array Bool} (hs : L.size = ops.size) : ∀ (n j : Nat), j < n → j < ops.size → L.getD j true = false → Region.ready .any ops L ≠ [] := by
  intro n
  induction n with
  | zero => intro j h; omega
  | succ n ih =>
    intro j hjn hj hu
    have ho : ops[j]? = some ops[j] := Array.getElem?_eq_getElem hj
    by_cases hall : ∀ e ∈ ops[j].after, Region.binds .any e = true → L.getD e.on true ≠ false
    · intro h0
      have hm : j ∈ Region.ready .any ops L := mem_ready.2 ⟨hu, _, ho, fun e he hbd => getD_true_of (by have := back_of hb ho e he hbd; omega) (hall e he hbd)⟩
      rw [h0] at hm
      cases hm
    · obtain ⟨e, he⟩ := Classical.not_forall.1 hall
      obtain ⟨hm, hl⟩ := Classical.not_imp.1 he
      obtain ⟨hbd, hl⟩ := Classical.not_imp.1 hl
      have hlt := back_of hb ho e hm hbd
      exact ih e.on (by omega) (by omega) (Classical.not_not.1 hl)

theorem wpAny_inv (I : Array Bool → Act → World → Prop) (hb : backB ops = true)
    (hstep : ∀ (i : Nat) (o : Oper) (L : Array Bool) (a : Act) (w : World), ops[i]? = some o → L.size = ops.size → L.getD i true = false →
      (∀ e ∈ o.after, Region.binds .any e = true → L.getD e.on false = true) → I L a w → wpOp P ops Q i (I (L.setIfInBounds i true)) a w)
    (hend : ∀ (L : Array Bool) (a : Act) (w : World), (∀ j, j < ops.size → L.getD j false = true) → I L a w → Q .normal a w) :
    ∀ (fuel : Nat) (L : Array Bool) (a : Act) (w : World), L.size = ops.size → L.toList.count false ≤ fuel → I L a w → wpAny P .any ops Q fuel L a w := by
  have fin : ∀ (L : Array Bool) (a : Act) (w : World), L.size = ops.size → Region.ready .any ops L = [] → I L a w → Q .normal a w := fun L a w hs h0 hI =>
    hend L a w (fun j hj => getD_true_of (by omega) fun hf => ready_ne hb hs (j + 1) j (by omega) hj hf h0) hI
  intro fuel
  induction fuel with
  | zero =>
    intro L a w hs hc hI
    have h0 : Region.ready .any ops L = [] := by
      cases hr : Region.ready .any ops L with
      | nil => rfl
      | cons i rest =>
        have hm : i ∈ Region.ready .any ops L := by rw [hr]; exact List.mem_cons_self ..
        have := count_set_true L.toList i (getD_false_of (mem_ready.1 hm).1)
        omega
    exact ⟨h0, fin L a w hs h0 hI⟩
  | succ fuel ih =>
    intro L a w hs hc hI
    refine ⟨fun h0 => fin L a w hs h0 hI, fun i hi => ?_⟩
    obtain ⟨hu, o, ho, hall⟩ := mem_ready.1 hi
    refine wpOp_mono (fun a' w' hI' => ih _ a' w' (by simpa using hs) ?_ hI') (hstep i o L a w ho hs hu hall hI)
    have h1 := count_set_true L.toList i (getD_false_of hu)
    have h2 : (L.setIfInBounds i true).toList = L.toList.set i true := by simp
    rw [h2]
    omega

theorem wp_region_inv {id : Nat} {a : Act} {w : World} (hm : P.follows .mixedOrders = true) (I : Array Bool → Act → World → Prop) (hb : backB ops = true)
    (h0 : I (Array.replicate ops.size false) a w.drew)
    (hstep : ∀ (i : Nat) (o : Oper) (L : Array Bool) (a : Act) (w : World), ops[i]? = some o → L.size = ops.size → L.getD i true = false →
      (∀ e ∈ o.after, Region.binds .any e = true → L.getD e.on false = true) → I L a w → wpOp P ops Q i (I (L.setIfInBounds i true)) a w)
    (hend : ∀ (L : Array Bool) (a : Act) (w : World), (∀ j, j < ops.size → L.getD j false = true) → I L a w → Q .normal a w) :
    (Code.region id ops true).wp P Q a w :=
  wp_region_any hm (wpAny_inv I hb hstep hend _ _ _ _ (by simp) (by simp) h0)

/-- The slot that operation j leaves its value in. -/
def dstAt (ops : Array Oper) (j : Nat) : Option Tmp := (ops[j]?).bind (·.dst)
/-- No operation is guarded; each writes a slot of its own, inside the frame. -/
def slotsB (ops : Array Oper) (N : Nat) : Bool :=
  (List.range ops.size).all fun i => ((ops[i]?).map fun o => o.guard.isNone).getD true && (match dstAt ops i with | some d => decide (d < N) | none => true) && (List.range ops.size).all fun j => i == j || (dstAt ops i).isNone || dstAt ops i != dstAt ops j
theorem slots_guard {N : Nat} (h : slotsB ops N = true) {i : Nat} {o : Oper} (ho : ops[i]? = some o) : o.guard = none := by
  have hi : i < ops.size := (Array.getElem?_eq_some_iff.1 ho).1
  have k := List.all_eq_true.1 h i (by simpa using hi)
  simp only [Bool.and_eq_true, ho, Option.map_some, Option.getD_some] at k
  simpa using k.1.1
theorem dst_lt {i d : Nat} (h : dstAt ops i = some d) : i < ops.size := by
  unfold dstAt at h
  cases e : ops[i]? with
  | none => simp [e] at h
  | some o => exact (Array.getElem?_eq_some_iff.1 e).1
theorem slots_lt {N : Nat} (h : slotsB ops N = true) {i d : Nat} (hd : dstAt ops i = some d) : d < N := by
  have k := List.all_eq_true.1 h i (by simpa using dst_lt hd)
  simp only [Bool.and_eq_true, hd] at k
  simpa using k.1.2
theorem slots_inj {N : Nat} (h : slotsB ops N = true) {i j d : Nat} (hi : dstAt ops i = some d) (hj : dstAt ops j = some d) : i = j := by
  have k := List.all_eq_true.1 h i (by simpa using dst_lt hi)
  simp only [Bool.and_eq_true] at k
  have k2 := List.all_eq_true.1 k.2 j (by simpa using dst_lt hj)
  simp only [hi, hj, Option.isNone_some, Bool.or_false, bne_self_eq_false] at k2
  simpa using k2
theorem tmps_put_same {a : Act} {d : Nat} {v : Value} (h : d < a.tmps.size) : (a.put (some d) v).tmps.getD d undef = v := by
  simp [Act.put, Array.getD_eq_getD_getElem?, h]
theorem tmps_put_ne {a : Act} {d e : Nat} {v : Value} (h : d ≠ e) : (a.put (some d) v).tmps.getD e undef = a.tmps.getD e undef := by
  simp [Act.put, Array.getD_eq_getD_getElem?, Array.getElem?_setIfInBounds_ne h]
theorem size_put (a : Act) (d : Option Tmp) (v : Value) : (a.put d v).tmps.size = a.tmps.size := by cases d <;> simp [Act.put]
theorem defers_put (a : Act) (d : Option Tmp) (v : Value) : (a.put d v).defers = a.defers := by cases d <;> rfl

/-- The frame behind the region: each slot written, in the order of the text. -/
def finAct (ops : Array Oper) (V : Nat → Value) (a0 : Act) : Nat → Act
  | 0 => a0
  | k + 1 => (finAct ops V a0 k).put (dstAt ops k) (V k)
theorem fin_spec {V : Nat → Value} {a0 : Act} (hB : slotsB ops a0.tmps.size = true) : ∀ k, (finAct ops V a0 k).defers = a0.defers ∧ (finAct ops V a0 k).tmps.size = a0.tmps.size ∧
    (∀ d, (∀ j, j < k → dstAt ops j ≠ some d) → (finAct ops V a0 k).tmps.getD d undef = a0.tmps.getD d undef) ∧
    ∀ j d, j < k → dstAt ops j = some d → (finAct ops V a0 k).tmps.getD d undef = V j := by
  intro k
  induction k with
  | zero => exact ⟨rfl, rfl, fun _ _ => rfl, fun j d h => by omega⟩
  | succ k ih =>
    obtain ⟨h1, h2, h3, h4⟩ := ih
    refine ⟨(defers_put ..).trans h1, (size_put ..).trans h2, fun d hd => ?_, fun j d hj hd => ?_⟩
    · rw [← h3 d fun j hj => hd j (by omega)]
      show ((finAct ops V a0 k).put (dstAt ops k) (V k)).tmps.getD d undef = _
      cases e : dstAt ops k with
      | none => rfl
      | some x => exact tmps_put_ne fun hx => hd k (by omega) (by rw [e, hx])
    · show ((finAct ops V a0 k).put (dstAt ops k) (V k)).tmps.getD d undef = _
      by_cases hjk : j = k
      · subst hjk
        rw [hd]
        exact tmps_put_same (by rw [h2]; exact slots_lt hB hd)
      · rw [← h4 j d (by omega) hd]
        cases e : dstAt ops k with
        | none => rfl
        | some x => exact tmps_put_ne fun hx => hjk (slots_inj hB hd (by rw [e, hx]))

/-- What is known of the frame while the operations come up: those that have come up have left V j, the other slots are as they were. -/
def Sl (ops : Array Oper) (V : Nat → Value) (a0 : Act) (L : Array Bool) (a : Act) : Prop :=
  a.defers = a0.defers ∧ a.tmps.size = a0.tmps.size ∧ (∀ d, (∀ j, dstAt ops j ≠ some d) → a.tmps.getD d undef = a0.tmps.getD d undef) ∧
  ∀ j d, L.getD j false = true → dstAt ops j = some d → a.tmps.getD d undef = V j
theorem getD_set_same {L : Array Bool} {i : Nat} (h : i < L.size) : (L.setIfInBounds i true).getD i false = true := by
  simp [Array.getD_eq_getD_getElem?, h]
theorem getD_set_other {L : Array Bool} {i j : Nat} (h : i ≠ j) (b : Bool) : (L.setIfInBounds i true).getD j b = L.getD j b := by
  simp [Array.getD_eq_getD_getElem?, Array.getElem?_setIfInBounds_ne h]
theorem Sl.next {V V' : Nat → Value} {a0 a : Act} {L : Array Bool} {i : Nat} {o : Oper} (hB : slotsB ops a0.tmps.size = true) (hi : ops[i]? = some o) (h : Sl ops V a0 L a)
    (hV : ∀ j, L.getD j false = true → V' j = V j) : Sl ops V' a0 (L.setIfInBounds i true) (a.put o.dst (V' i)) := by
  obtain ⟨h1, h2, h3, h4⟩ := h
  have hdi : dstAt ops i = o.dst := by unfold dstAt; rw [hi]; rfl
  refine ⟨(defers_put ..).trans h1, (size_put ..).trans h2, fun d hd => ?_, fun j d hj hd => ?_⟩
  · rw [← h3 d hd]
    cases e : o.dst with
    | none => rfl
    | some x => exact tmps_put_ne fun hx => hd i (by rw [hdi, e, hx])
  · by_cases hji : i = j
    · subst hji
      rw [hdi] at hd
      rw [hd]
      exact tmps_put_same (by rw [h2]; exact slots_lt hB (hdi.trans hd))
    · rw [getD_set_other hji] at hj
      rw [hV j hj, ← h4 j d hj hd]
      cases e : o.dst with
      | none => rfl
      | some x => exact tmps_put_ne fun hx => hji (slots_inj hB (hdi.trans (by rw [e, hx])) hd)
theorem Sl.final {V : Nat → Value} {a0 a : Act} {L : Array Bool} (hB : slotsB ops a0.tmps.size = true) (h : Sl ops V a0 L a) (hall : ∀ j, j < ops.size → L.getD j false = true) :
    a = finAct ops V a0 ops.size := by
  obtain ⟨h1, h2, h3, h4⟩ := h
  obtain ⟨f1, f2, f3, f4⟩ := fin_spec (V := V) hB ops.size
  have ht : a.tmps = (finAct ops V a0 ops.size).tmps := by
    apply Array.ext (h2.trans f2.symm)
    intro d hd hd'
    have e : a.tmps.getD d undef = (finAct ops V a0 ops.size).tmps.getD d undef := by
      by_cases hx : ∃ j, dstAt ops j = some d
      · obtain ⟨j, hj⟩ := hx
        rw [h4 j d (hall j (dst_lt hj)) hj, f4 j d (dst_lt hj) hj]
      · have hn : ∀ j, dstAt ops j ≠ some d := fun j hj => hx ⟨j, hj⟩
        rw [h3 d hn, f3 d fun j _ => hn j]
    simpa [Array.getD_eq_getD_getElem?, hd, hd'] using e
  cases a
  cases hf : finAct ops V a0 ops.size
  rw [hf] at ht f1
  simp only at ht h1 f1
  rw [ht, h1, f1]

/-- A REGION THAT DRAWS ITS ORDER, NO OPERATION GUARDED: V tells what each operation yields (as a function of what is found on the way), W what is known of the world: each operation by itself, from those that it waits for. -/
theorem wp_region_sl {Θ : Type} {id : Nat} {a0 : Act} {w : World} (hm : P.follows .mixedOrders = true) (V : Θ → Nat → Value) (W : Θ → Array Bool → World → Prop) (hb : backB ops = true) (hB : slotsB ops a0.tmps.size = true) (t0 : Θ)
    (h0 : W t0 (Array.replicate ops.size false) w.drew)
    (hstep : ∀ (i : Nat) (o : Oper) (t : Θ) (L : Array Bool) (a : Act) (w : World), ops[i]? = some o → L.size = ops.size → L.getD i true = false →
      (∀ e ∈ o.after, Region.binds .any e = true → L.getD e.on false = true) → Sl ops (V t) a0 L a → W t L w →
      o.wp P a w (fun a' w' => ∃ t', a' = a.put o.dst (V t' i) ∧ (∀ j, L.getD j false = true → V t' j = V t j) ∧ W t' (L.setIfInBounds i true) w') Q)
    (hend : ∀ (t : Θ) (L : Array Bool) (a : Act) (w : World), (∀ j, j < ops.size → L.getD j false = true) → Sl ops (V t) a0 L a → W t L w → Q .normal a w) :
    (Code.region id ops true).wp P Q a0 w := by
  refine wp_region_inv hm (fun L a w => ∃ t, Sl ops (V t) a0 L a ∧ W t L w) hb ⟨t0, ⟨rfl, rfl, fun _ _ => rfl, fun j d hj => ?_⟩, h0⟩ ?_ ?_
  · rw [Array.getD_eq_getD_getElem?, Array.getElem?_replicate] at hj
    split at hj <;> simp at hj
  · rintro i o L a w ho hs hu hall ⟨t, hS, hW⟩
    unfold wpOp
    simp only [ho, Region.wanted, slots_guard hB ho, if_true]
    refine .inl (Oper.wp_mono ?_ (hstep i o t L a w ho hs hu hall hS hW))
    rintro a' w' ⟨t', rfl, hV, hW'⟩
    exact ⟨t', Sl.next hB ho hS hV, hW'⟩
  · rintro L a w hall ⟨t, hS, hW⟩
    exact hend t L a w hall hS hW
end

/-- The operations of region k of a body. -/
def regOps (k : Nat) : Code → Option (Array Oper)
  | .region id ops _ => if id == k then some ops else none
  | .seq a b => match regOps k a with
    | some x => some x
    | none => regOps k b
  | .cond _ a b => match regOps k a with
    | some x => some x
    | none => regOps k b
  | .block _ c => regOps k c
  | .loop c => regOps k c
  | .scope c => regOps k c
  | _ => none
section
variable {P : Program} {ops : Array Oper} {Q : Exit → Act → World → Prop} {a a0 : Act} {w : World} {o : Oper} {L : Array Bool} {i : Nat} {V : Nat → Value}
theorem reg_use {ops' : Array Oper} {id : Nat} {b : Bool} (h : ops' = ops) (k : (Code.region id ops b).wp P Q a w) : (Code.region id ops' b).wp P Q a w := by rw [h]; exact k
theorem at_op {q : Op} (h : (ops[i]?).map (·.op) = some q) (ho : ops[i]? = some o) : o.op = q := by
  rw [ho] at h
  simpa using h
theorem at_dst {d : Option Tmp} (h : (ops[i]?).map (·.dst) = some d) (ho : ops[i]? = some o) : o.dst = d := by
  rw [ho] at h
  simpa using h
/-- Operation i waits for operation p. -/
def depB (ops : Array Oper) (i p : Nat) : Bool := ((ops[i]?).map fun o => o.after.any fun e => e.on == p && Region.binds .any e).getD false
theorem dep_listed {p : Nat} (he : depB ops i p = true) (ho : ops[i]? = some o) (hall : ∀ e ∈ o.after, Region.binds .any e = true → L.getD e.on false = true) : L.getD p false = true := by
  unfold depB at he
  simp only [ho, Option.map_some, Option.getD_some] at he
  obtain ⟨e, hm, hp⟩ := Array.any_eq_true'.1 he
  simp only [Bool.and_eq_true, beq_iff_eq] at hp
  rw [← hp.1]
  exact hall e hm hp.2
theorem Sl.arg {p d : Nat} (hS : Sl ops V a0 L a) (ho : ops[i]? = some o) (hall : ∀ e ∈ o.after, Region.binds .any e = true → L.getD e.on false = true) (he : depB ops i p = true) (hd : dstAt ops p = some d) : a.eval (.tmp d) = V p :=
  hS.2.2.2 p d (dep_listed he ho hall) hd
def outB (ops : Array Oper) (d : Nat) : Bool := (List.range ops.size).all fun j => dstAt ops j != some d
theorem Sl.out {d : Nat} (hS : Sl ops V a0 L a) (h : outB ops d = true) : a.eval (.tmp d) = a0.eval (.tmp d) :=
  hS.2.2.1 d fun j hj => by
    have := List.all_eq_true.1 h j (by simpa using dst_lt hj)
    simp [hj] at this
/-- An operation that yields its value and leaves the world alone. -/
theorem pure_op {Θ : Type} {V : Θ → Nat → Value} {W : Θ → Array Bool → World → Prop} {t : Θ} {v : Value} (hrun : (execOp a.eval o).run P w = .ok (.value v) w) (hv : v = V t i) (hW : W t (L.setIfInBounds i true) w) :
    o.wp P a w (fun a' w' => ∃ t', a' = a.put o.dst (V t' i) ∧ (∀ j, L.getD j false = true → V t' j = V t j) ∧ W t' (L.setIfInBounds i true) w') Q := by
  unfold Oper.wp
  rw [hrun, Oper.upon_value]
  exact ⟨t, by rw [hv], fun _ _ => rfl, hW⟩
theorem getD_false_of_unlisted {i : Nat} (h : L.getD i true = false) : L.getD i false = false := by
  rw [Array.getD_eq_getD_getElem?] at h ⊢
  cases e : L[i]? with
  | none => simp [e] at h
  | some b => simp [e] at h ⊢; exact h
theorem k_move (x : Operand) (ho : o.op = .move x) {v : Value} (hx : a.eval x = v) : (execOp a.eval o).run P w = .ok (.value v) w := by rw [BigFrame.run_move x ho, hx]
/-- A call of a Go function. -/
theorem k_call {K : Act → World → Prop} {f : FuncId} {args : Array Value} (hrun : (execOp a.eval o).run P w = .ok (.enter f args) w) {R : Value → World → Prop} (hc : Calls P f args w fun e w' => ∃ v, e = .returned v ∧ R v w') (hK : ∀ v w', R v w' → K (a.put o.dst v) w') : o.wp P a w K Q := by
  unfold Oper.wp
  rw [hrun, Oper.upon_enter]
  refine hc.mono ?_
  rintro e w' ⟨v, rfl, hv⟩
  exact hK v w' hv
end

theorem info76 : (Try.prog.info? 76).map (fun i => (i.zero, i.size, i.bytes)) = some (some (.agg #[.int .i32 0, .int .u32 0, .int .u32 0]), 3, 12) := by kernel_rfl
/-- The list of places and names so far: v holds k of them. -/
def Own (B : Nat) (w : World) (v : Value) (k : Nat) (xs : List Value) : Prop := w.ownsRowF B 76 3 v k xs
def rec3 (l i : Int) : List Value := [.int .i32 l, .int .u32 0, .int .u32 i]
structure Tg where
  g : Nat
  v : Value
/-- What is known of the world. -/
def Wr (B : Nat) (w1 : World) (p : Nat) (rv : Value) (k : Nat) (xs news : List Value) (t : Tg) (L : Array Bool) (w' : World) : Prop :=
  (L.getD 11 false = true → L.getD 10 false = true) ∧
  (L.getD 12 false = true → ∀ j, j < 12 → L.getD j false = true) ∧
  (L.getD 12 false = false → ch.Touch (fun b => rv.ownBlock = some b) w1 w' ∧ (L.getD 9 false = true → L.getD 8 false = true) ∧ (L.getD 9 false = false → Own B w' rv k xs) ∧
    (L.getD 8 false = true → L.getD 9 false = false → w'.heap[t.g]? = some (.cells news.toArray 76 (0, 0))) ∧ (L.getD 9 false = true → Own B w' t.v (k + 1) (xs ++ news))) ∧
  (L.getD 12 false = true → ∃ w2, ch.Touch (fun b => rv.ownBlock = some b) w1 w2 ∧ Own B w2 t.v (k + 1) (xs ++ news) ∧ w' = w2.setCell ⟨p, 196, none⟩ t.v)
section
variable {B : Nat} {w1 w' : World} {p : Nat} {rv : Value} {k : Nat} {xs news : List Value} {t : Tg} {L : Array Bool}
theorem getD_grow {i j : Nat} (h : L.getD j false = true) : (L.setIfInBounds i true).getD j false = true := by
  by_cases e : i = j
  · subst e
    refine getD_set_same ?_
    rw [Array.getD_eq_getD_getElem?] at h
    cases e2 : L[i]? with
    | none => simp [e2] at h
    | some b => exact (Array.getElem?_eq_some_iff.1 e2).1
  · rw [getD_set_other e]; exact h
theorem Wr.open {i : Nat} (h : Wr B w1 p rv k xs news t L w') (hi : i < 12) (hu : L.getD i false = false) : L.getD 12 false = false := by
  cases e : L.getD 12 false with
  | false => rfl
  | true => have := h.2.1 e i hi; rw [hu] at this; cases this
theorem Wr.next {i : Nat} (h : Wr B w1 p rv k xs news t L w') (hi : i < 12) (hu : L.getD i false = false) (h8 : i ≠ 8) (h9 : i ≠ 9) (h11 : i = 11 → L.getD 10 false = true) : Wr B w1 p rv k xs news t (L.setIfInBounds i true) w' := by
  have hz := h.open hi hu
  unfold Wr
  rw [getD_set_other (i := i) (j := 12) (by omega), getD_set_other (i := i) (j := 8) h8, getD_set_other (i := i) (j := 9) h9]
  refine ⟨fun e => ?_, fun e => (by rw [hz] at e; cases e), h.2.2.1, h.2.2.2⟩
  by_cases h1 : i = 11
  · exact getD_grow (h11 h1)
  · rw [getD_set_other h1] at e; exact getD_grow (h.1 e)
theorem Wr.build (h : Wr B w1 p rv k xs news t L w') (hu : L.getD 8 false = false) (arr : Array Value) (harr : arr = news.toArray) :
    Wr B w1 p rv k xs news ⟨w'.heap.size, t.v⟩ (L.setIfInBounds 8 true) (w'.alloc (.cells arr 76)) := by
  have hz := h.open (by omega) hu
  obtain ⟨ht, h98, ho, _, _⟩ := h.2.2.1 hz
  have h9 : L.getD 9 false = false := by
    cases e : L.getD 9 false with
    | false => rfl
    | true => have := h98 e; rw [hu] at this; cases this
  unfold Wr
  rw [getD_set_other (i := 8) (j := 12) (by omega), getD_set_other (i := 8) (j := 9) (by omega)]
  refine ⟨fun e => (by rw [getD_set_other (by omega)] at e; exact getD_grow (h.1 e)), fun e => (by rw [hz] at e; cases e), fun _ => ⟨ht.alloc _, fun e => (by rw [h9] at e; cases e), fun _ => (ho h9).alloc _, fun _ _ => ?_, fun e => (by rw [h9] at e; cases e)⟩, fun e => (by rw [hz] at e; cases e)⟩
  rw [harr]; exact heap_alloc_new w' _
theorem Wr.app (h : Wr B w1 p rv k xs news t L w') (hsz : 12 < L.size) (hu : L.getD 9 false = false) (h8 : L.getD 8 false = true) (v' : Value) (w2 : World) (hg : w'.grownBy w2 rv.ownBlock) (ho : Own B w2 v' (k + 1) (xs ++ news)) :
    Wr B w1 p rv k xs news ⟨t.g, v'⟩ (L.setIfInBounds 9 true) w2 := by
  have hz := h.open (by omega) hu
  obtain ⟨ht, _⟩ := h.2.2.1 hz
  unfold Wr
  rw [getD_set_other (i := 9) (j := 12) (by omega), getD_set_other (i := 9) (j := 8) (by omega), getD_set_same (by omega)]
  exact ⟨fun e => (by rw [getD_set_other (by omega)] at e; exact getD_grow (h.1 e)), fun e => (by rw [hz] at e; cases e), fun _ => ⟨ht.grown hg (fun b hb _ => hb), fun _ => h8, fun e => (by cases e), fun _ e => (by cases e), fun _ => ho⟩, fun e => (by rw [hz] at e; cases e)⟩
end
theorem app76 {ops : Array Oper} {Q : Exit → Act → World → Prop} {a : Act} {w : World} {o : Oper} {s x : Operand} (ho : o.op = .call { callee := .builtin .append, args := #[s, x], argTypes := #[70, 70] }) {K : Act → World → Prop}
    (B : Nat) (v : Value) (k : Nat) (xs : List Value) (l i : Int) (g : Nat) (hs : a.eval s = v) (hb : Own B w v k xs) (hx : a.eval x = .slice (some ⟨g, 0, none⟩) 1 1)
    (hg : w.heap[g]? = some (.cells (rec3 l i).toArray 76 (0, 0))) (hk : k ≤ 65536) (hB : B ≤ w.heap.size) (hK : ∀ v' w2, w.grownBy w2 v.ownBlock → Own B w2 v' (k + 1) (xs ++ rec3 l i) → K (a.put o.dst v') w2) : o.wp Try.prog a w K Q := by
  obtain ⟨ti, hi, hz⟩ := Option.map_eq_some_iff.1 info76
  simp only [Prod.mk.injEq] at hz
  obtain ⟨hz, hsz, hby⟩ := hz
  have hn : ∀ j u, (rec3 l i)[j]? = some u → w.cell? ((⟨g, 0, none⟩ : Addr).add j) = some u := by
    intro j u h
    have hc := cell_of_row w g j _ _ _ hg
    rw [Go.WideShapes.add_plain, Nat.zero_add, hc]
    simpa using h
  obtain ⟨v', w2, hr, h2, h3, h4⟩ := run_append_ownF (P := Try.prog) w B 70 o.type 76 ti _ 3 12 Try.underlying70 hi hz hsz hby rfl (by decide) v k xs hb ⟨g, 0, none⟩ 1 1 (rec3 l i) rfl hn (by
    intro u hu
    simp [rec3] at hu
    rcases hu with rfl | rfl | rfl <;> rfl) (by unfold maxLen; omega) (by omega) hB
  unfold Oper.wp execOp
  simp only [ho, resolve, invoke, builtin, Sem.run_bind, Sem.run_pure, Result.andThen_ok, List.map_toArray, List.map_cons, List.map_nil, hs, hx, hr]
  exact hK v' w2 h3 h2
noncomputable def opsR : Array Oper := (Try.f41.body.bind (regOps 1)).getD #[]
theorem sizeR : opsR.size = 13 := by kernel_rfl
noncomputable def VR (p : Nat) (rv : Value) (l i : Int) (t : Tg) (j : Nat) : Value := if j = 8 then .slice (some ⟨t.g, 0, none⟩) 1 1 else if j = 9 then t.v else [ptr p, ptr p, ptr p, .pointer (some ⟨p, 196, none⟩), rv, .agg #[.int .i32 l], .agg #[.int .u32 0, .int .u32 i], .agg #[.int .i32 l, .int .u32 0, .int .u32 i], undef, undef, ptr p, .pointer (some ⟨p, 196, none⟩), undef].getD j undef
theorem VR_g (p : Nat) (rv : Value) (l i : Int) (t : Tg) (g' j : Nat) (h : j ≠ 8) : VR p rv l i ⟨g', t.v⟩ j = VR p rv l i t j := by
  unfold VR
  rw [if_neg h, if_neg h]
theorem VR_v (p : Nat) (rv : Value) (l i : Int) (t : Tg) (v' : Value) (j : Nat) (h : j ≠ 9) : VR p rv l i ⟨t.g, v'⟩ j = VR p rv l i t j := by
  unfold VR
  rw [if_neg h, if_neg h]
theorem Own.slice {B : Nat} {w : World} {v : Value} {k : Nat} {xs : List Value} (h : Own B w v k xs) : ∃ a c, v = .slice a k c := by
  obtain ⟨_, h⟩ := h
  rcases h with ⟨rfl, rfl⟩ | ⟨g, cap, cur, fz, rfl, _⟩
  · exact ⟨none, 0, rfl⟩
  · exact ⟨_, _, rfl⟩
set_option maxHeartbeats 8000000 in
theorem regR {id : Nat} {a00 : Act} {Q : Exit → Act → World → Prop} (B : Nat) (w1 : World) (p s n : Nat) (mode : Int) (cur mod : Nat) (depth : Int) (rv : Value) (k : Nat) (xs : List Value) (bx x3 x4 : Nat) (l i : Int)
    (hs : a00.tmps.size = 27) (h2 : a00.eval (.tmp 2) = ptr bx) (h3 : a00.eval (.tmp 3) = ptr x3) (h4 : a00.eval (.tmp 4) = ptr x4)
    (H : St w1 p s n mode cur mod depth rv) (hOwn : Own B w1 rv k xs) (hk : k ≤ 65536) (hB : B ≤ w1.heap.size)
    (hcb : w1.cell? ⟨bx, 0, none⟩ = some (ptr p)) (hc3 : w1.cell? ⟨x3, 0, none⟩ = some (.int .i32 l)) (hc4 : w1.cell? ⟨x4, 0, none⟩ = some (.int .u32 0)) (hc4' : w1.cell? ⟨x4, 1, none⟩ = some (.int .u32 i))
    (hpo : ¬ rv.ownBlock = some p) (hbo : ¬ rv.ownBlock = some bx) (h3o : ¬ rv.ownBlock = some x3) (h4o : ¬ rv.ownBlock = some x4)
    (hQ : ∀ (t : Tg) (w2 : World), ch.Touch (fun b => rv.ownBlock = some b) w1 w2 → Own B w2 t.v (k + 1) (xs ++ rec3 l i) → Q .normal ((((((((((((a00.put (some 6) (ptr p)).put (some 7) (ptr p)).put (some 8) (ptr p)).put (some 9) (.pointer (some ⟨p, 196, none⟩))).put (some 10) (rv)).put (some 11) (.agg #[.int .i32 l])).put (some 12) (.agg #[.int .u32 0, .int .u32 i])).put (some 13) (.agg #[.int .i32 l, .int .u32 0, .int .u32 i])).put (some 14) (.slice (some ⟨t.g, 0, none⟩) 1 1)).put (some 15) (t.v)).put (some 16) (ptr p)).put (some 17) (.pointer (some ⟨p, 196, none⟩))) (w2.setCell ⟨p, 196, none⟩ t.v)) :
    (Code.region id opsR true).wp Try.prog Q a00 w1 := by
  have hpl := H.lt.1
  have hbl : bx < w1.heap.size := block_lt_of_cell hcb
  have h3l : x3 < w1.heap.size := block_lt_of_cell hc3
  have h4l : x4 < w1.heap.size := block_lt_of_cell hc4
  refine wp_region_sl (Θ := Tg) (by kernel_rfl) (VR p rv l i) (Wr B w1 p rv k xs (rec3 l i)) (by kernel_rfl) (by rw [hs]; kernel_rfl) ⟨0, undef⟩ ?_ ?_ ?_
  · have hf : ∀ j, (Array.replicate opsR.size false).getD j false = false := fun j => by
      rw [Array.getD_eq_getD_getElem?, Array.getElem?_replicate]
      split <;> rfl
    unfold Wr
    rw [hf, hf, hf, hf]
    exact ⟨(fun h => by cases h), (fun h => by cases h), fun _ => ⟨(ch.Touch.refl _ _).drew, (fun h => by cases h), fun _ => hOwn, (fun h => by cases h), (fun h => by cases h)⟩, (fun h => by cases h)⟩
  · intro i0 o t L ac w' ho hL hu hall hS hW
    have uf := getD_false_of_unlisted hu
    have hi : i0 < 13 := by rw [← sizeR]; exact (Array.getElem?_eq_some_iff.1 ho).1
    have rcs : i0 = 0 ∨ i0 = 1 ∨ i0 = 2 ∨ i0 = 3 ∨ i0 = 4 ∨ i0 = 5 ∨ i0 = 6 ∨ i0 = 7 ∨ i0 = 8 ∨ i0 = 9 ∨ i0 = 10 ∨ i0 = 11 ∨ i0 = 12 := by omega
    rcases rcs with rfl | rfl | rfl | rfl | rfl | rfl | rfl | rfl | rfl | rfl | rfl | rfl | rfl
    · have ho1 := at_op (q := Op.load 60 (Operand.tmp 2)) (by kernel_rfl) ho
      have hx0 : ac.eval (.tmp 2) = ptr bx := (hS.out (by kernel_rfl)).trans h2
      have hz := hW.open (by omega) uf
      obtain ⟨ht, _⟩ := hW.2.2.1 hz
      have hc := (World.cell?_of_block (a := ⟨bx, 0, none⟩) (ht.block bx hbl hbo)).trans hcb
      refine pure_op (t := t) (V := (VR p rv l i)) (W := (Wr B w1 p rv k xs (rec3 l i))) (v := ptr p) ?_ rfl (hW.next (by omega) uf (by omega) (by omega) (fun h => by omega))
      clear hW hS hall ht
      unfold execOp
      simp only [ho1, List.map_toArray, List.map_cons, List.map_nil, hx0]
      go_simp
    · have ho1 := at_op (q := Op.load 60 (Operand.tmp 2)) (by kernel_rfl) ho
      have hx0 : ac.eval (.tmp 2) = ptr bx := (hS.out (by kernel_rfl)).trans h2
      have hz := hW.open (by omega) uf
      obtain ⟨ht, _⟩ := hW.2.2.1 hz
      have hc := (World.cell?_of_block (a := ⟨bx, 0, none⟩) (ht.block bx hbl hbo)).trans hcb
      refine pure_op (t := t) (V := (VR p rv l i)) (W := (Wr B w1 p rv k xs (rec3 l i))) (v := ptr p) ?_ rfl (hW.next (by omega) uf (by omega) (by omega) (fun h => by omega))
      clear hW hS hall ht
      unfold execOp
      simp only [ho1, List.map_toArray, List.map_cons, List.map_nil, hx0]
      go_simp
    · have ho1 := at_op (q := Op.nilCheck (Operand.tmp 7)) (by kernel_rfl) ho
      have hx0 : ac.eval (.tmp 7) = ptr p := hS.arg (p := 1) (d := 7) ho hall (by kernel_rfl) (by kernel_rfl)
      have hz := hW.open (by omega) uf
      obtain ⟨ht, _⟩ := hW.2.2.1 hz
      refine pure_op (t := t) (V := (VR p rv l i)) (W := (Wr B w1 p rv k xs (rec3 l i))) (v := ptr p) ?_ rfl (hW.next (by omega) uf (by omega) (by omega) (fun h => by omega))
      clear hW hS hall ht
      unfold execOp
      simp only [ho1, List.map_toArray, List.map_cons, List.map_nil, hx0]
      go_simp
    · have ho1 := at_op (q := Op.fieldAddr 196 (Operand.tmp 8) 63) (by kernel_rfl) ho
      have hx0 : ac.eval (.tmp 8) = ptr p := hS.arg (p := 2) (d := 8) ho hall (by kernel_rfl) (by kernel_rfl)
      have hz := hW.open (by omega) uf
      obtain ⟨ht, _⟩ := hW.2.2.1 hz
      refine pure_op (t := t) (V := (VR p rv l i)) (W := (Wr B w1 p rv k xs (rec3 l i))) (v := .pointer (some ⟨p, 196, none⟩)) ?_ rfl (hW.next (by omega) uf (by omega) (by omega) (fun h => by omega))
      clear hW hS hall ht
      unfold execOp
      simp only [ho1, List.map_toArray, List.map_cons, List.map_nil, hx0]
      go_simp
    · have ho1 := at_op (q := Op.load 70 (Operand.tmp 9)) (by kernel_rfl) ho
      have hx0 : ac.eval (.tmp 9) = .pointer (some ⟨p, 196, none⟩) := hS.arg (p := 3) (d := 9) ho hall (by kernel_rfl) (by kernel_rfl)
      have hz := hW.open (by omega) uf
      obtain ⟨ht, _⟩ := hW.2.2.1 hz
      have hc := (World.cell?_of_block (a := ⟨p, 196, none⟩) (ht.block p hpl hpo)).trans H.c196
      refine pure_op (t := t) (V := (VR p rv l i)) (W := (Wr B w1 p rv k xs (rec3 l i))) (v := rv) ?_ rfl (hW.next (by omega) uf (by omega) (by omega) (fun h => by omega))
      clear hW hS hall ht
      unfold execOp
      simp only [ho1, List.map_toArray, List.map_cons, List.map_nil, hx0]
      go_simp
    · have ho1 := at_op (q := Op.load 28 (Operand.tmp 3)) (by kernel_rfl) ho
      have hx0 : ac.eval (.tmp 3) = ptr x3 := (hS.out (by kernel_rfl)).trans h3
      have hz := hW.open (by omega) uf
      obtain ⟨ht, _⟩ := hW.2.2.1 hz
      have hc := (World.cell?_of_block (a := ⟨x3, 0, none⟩) (ht.block x3 h3l h3o)).trans hc3
      refine pure_op (t := t) (V := (VR p rv l i)) (W := (Wr B w1 p rv k xs (rec3 l i))) (v := .agg #[.int .i32 l]) ?_ rfl (hW.next (by omega) uf (by omega) (by omega) (fun h => by omega))
      clear hW hS hall ht
      unfold execOp
      simp only [ho1, List.map_toArray, List.map_cons, List.map_nil, hx0]
      go_simp
    · have ho1 := at_op (q := Op.load 74 (Operand.tmp 4)) (by kernel_rfl) ho
      have hx0 : ac.eval (.tmp 4) = ptr x4 := (hS.out (by kernel_rfl)).trans h4
      have hz := hW.open (by omega) uf
      obtain ⟨ht, _⟩ := hW.2.2.1 hz
      have hc := (World.cell?_of_block (a := ⟨x4, 0, none⟩) (ht.block x4 h4l h4o)).trans hc4
      have hc' := (World.cell?_of_block (a := ⟨x4, 1, none⟩) (ht.block x4 h4l h4o)).trans hc4'
      refine pure_op (t := t) (V := (VR p rv l i)) (W := (Wr B w1 p rv k xs (rec3 l i))) (v := .agg #[.int .u32 0, .int .u32 i]) ?_ rfl (hW.next (by omega) uf (by omega) (by omega) (fun h => by omega))
      clear hW hS hall ht
      unfold execOp
      simp only [ho1, List.map_toArray, List.map_cons, List.map_nil, hx0]
      go_simp
    · have ho1 := at_op (q := Op.build 76 #[(0, Operand.tmp 11), (1, Operand.tmp 12)]) (by kernel_rfl) ho
      have hx0 : ac.eval (.tmp 11) = .agg #[.int .i32 l] := hS.arg (p := 5) (d := 11) ho hall (by kernel_rfl) (by kernel_rfl)
      have hx1 : ac.eval (.tmp 12) = .agg #[.int .u32 0, .int .u32 i] := hS.arg (p := 6) (d := 12) ho hall (by kernel_rfl) (by kernel_rfl)
      have hz := hW.open (by omega) uf
      obtain ⟨ht, _⟩ := hW.2.2.1 hz
      refine pure_op (t := t) (V := (VR p rv l i)) (W := (Wr B w1 p rv k xs (rec3 l i))) (v := .agg #[.int .i32 l, .int .u32 0, .int .u32 i]) ?_ rfl (hW.next (by omega) uf (by omega) (by omega) (fun h => by omega))
      clear hW hS hall ht
      unfold execOp
      simp only [ho1, List.map_toArray, List.map_cons, List.map_nil, hx0, hx1]
      go_simp
    · have ho1 := at_op (q := Op.buildSlice 70 1 #[(0, Operand.tmp 13)]) (by kernel_rfl) ho
      have hx0 : ac.eval (.tmp 13) = .agg #[.int .i32 l, .int .u32 0, .int .u32 i] := hS.arg (p := 7) (d := 13) ho hall (by kernel_rfl) (by kernel_rfl)
      have hrun : (execOp ac.eval o).run Try.prog w' = .ok (.value (.slice (some ⟨w'.heap.size, 0, none⟩) 1 1)) (w'.alloc (.cells (rec3 l i).toArray 76)) := by
        unfold execOp
        simp only [ho1, List.map_toArray, List.map_cons, List.map_nil, hx0]
        go_simp
        rfl
      unfold Oper.wp
      rw [hrun, Oper.upon_value]
      exact ⟨⟨w'.heap.size, t.v⟩, rfl, fun j hj => VR_g p rv l i t _ j (by rintro rfl; rw [uf] at hj; cases hj), hW.build uf _ rfl⟩
    · have ho1 := at_op (q := Op.call { callee := Callee.builtin Builtin.append, args := #[Operand.tmp 10, Operand.tmp 14], argTypes := #[70, 70] }) (by kernel_rfl) ho
      have hx0 : ac.eval (.tmp 10) = rv := hS.arg (p := 4) (d := 10) ho hall (by kernel_rfl) (by kernel_rfl)
      have hx1 : ac.eval (.tmp 14) = .slice (some ⟨t.g, 0, none⟩) 1 1 := hS.arg (p := 8) (d := 14) ho hall (by kernel_rfl) (by kernel_rfl)
      have h8 : L.getD 8 false = true := dep_listed (p := 8) (by kernel_rfl) ho hall
      have hz := hW.open (by omega) uf
      obtain ⟨ht, _, hown, hblk, _⟩ := hW.2.2.1 hz
      refine app76 (ops := opsR) ho1 B rv k xs l i t.g hx0 (hown uf) hx1 (hblk h8 uf) hk (Nat.le_trans hB ht.size) ?_
      intro v' w2 hgr hb2
      exact ⟨⟨t.g, v'⟩, rfl, fun j hj => VR_v p rv l i t _ j (by rintro rfl; rw [uf] at hj; cases hj), hW.app (by rw [hL, sizeR]; omega) uf h8 v' w2 hgr hb2⟩
    · have ho1 := at_op (q := Op.nilCheck (Operand.tmp 6)) (by kernel_rfl) ho
      have hx0 : ac.eval (.tmp 6) = ptr p := hS.arg (p := 0) (d := 6) ho hall (by kernel_rfl) (by kernel_rfl)
      have hz := hW.open (by omega) uf
      obtain ⟨ht, _⟩ := hW.2.2.1 hz
      refine pure_op (t := t) (V := (VR p rv l i)) (W := (Wr B w1 p rv k xs (rec3 l i))) (v := ptr p) ?_ rfl (hW.next (by omega) uf (by omega) (by omega) (fun h => by omega))
      clear hW hS hall ht
      unfold execOp
      simp only [ho1, List.map_toArray, List.map_cons, List.map_nil, hx0]
      go_simp
    · have ho1 := at_op (q := Op.fieldAddr 196 (Operand.tmp 16) 63) (by kernel_rfl) ho
      have hx0 : ac.eval (.tmp 16) = ptr p := hS.arg (p := 10) (d := 16) ho hall (by kernel_rfl) (by kernel_rfl)
      have hz := hW.open (by omega) uf
      obtain ⟨ht, _⟩ := hW.2.2.1 hz
      refine pure_op (t := t) (V := (VR p rv l i)) (W := (Wr B w1 p rv k xs (rec3 l i))) (v := .pointer (some ⟨p, 196, none⟩)) ?_ rfl (hW.next (by omega) uf (by omega) (by omega) (fun _ => dep_listed (p := 10) (by kernel_rfl) ho hall))
      clear hW hS hall ht
      unfold execOp
      simp only [ho1, List.map_toArray, List.map_cons, List.map_nil, hx0]
      go_simp
    · have ho1 := at_op (q := Op.store 70 (Operand.tmp 17) (Operand.tmp 15)) (by kernel_rfl) ho
      have hx0 : ac.eval (.tmp 17) = .pointer (some ⟨p, 196, none⟩) := hS.arg (p := 11) (d := 17) ho hall (by kernel_rfl) (by kernel_rfl)
      have hx1 : ac.eval (.tmp 15) = t.v := hS.arg (p := 9) (d := 15) ho hall (by kernel_rfl) (by kernel_rfl)
      have h9 : L.getD 9 false = true := dep_listed (p := 9) (by kernel_rfl) ho hall
      obtain ⟨ht, _, _, _, hown⟩ := hW.2.2.1 uf
      have hfz : w'.frozen? ⟨p, 196, none⟩ = false := (World.frozen?_of_block (a := ⟨p, 196, none⟩) (ht.block p hpl hpo)).trans (H.fz 196)
      have hcl : w'.cell? ⟨p, 196, none⟩ = some rv := (World.cell?_of_block (a := ⟨p, 196, none⟩) (ht.block p hpl hpo)).trans H.c196
      obtain ⟨A', c', hsv⟩ := (hown h9).slice
      have hrun : (execOp ac.eval o).run Try.prog w' = .ok .skip (w'.setCell ⟨p, 196, none⟩ t.v) := by
        unfold execOp
        simp only [ho1, hx0, hx1]
        rw [hsv]
        go_simp
      have hd : o.dst = none := at_dst (d := none) (by kernel_rfl) ho
      unfold Oper.wp
      rw [hrun, Oper.upon_skip]
      refine ⟨t, by rw [hd]; rfl, fun _ _ => rfl, ?_⟩
      have hall2 : ∀ j, j < 12 → L.getD j false = true := fun j hj => by
        have : j = 0 ∨ j = 1 ∨ j = 2 ∨ j = 3 ∨ j = 4 ∨ j = 5 ∨ j = 6 ∨ j = 7 ∨ j = 8 ∨ j = 9 ∨ j = 10 ∨ j = 11 := by omega
        rcases this with rfl | rfl | rfl | rfl | rfl | rfl | rfl | rfl | rfl | rfl | rfl | rfl
        case inr.inr.inr.inr.inr.inr.inr.inr.inr.inr.inl => exact hW.1 (dep_listed (p := 11) (by kernel_rfl) ho hall)
        all_goals exact dep_listed (by kernel_rfl) ho hall
      unfold Wr
      rw [getD_set_same (by rw [hL, sizeR]; omega)]
      exact ⟨fun e => (by rw [getD_set_other (by omega)] at e; exact getD_grow (hW.1 e)), fun _ j hj => getD_grow (hall2 j hj), fun e => (by cases e), fun _ => ⟨w', ht, hown h9, rfl⟩⟩
  · intro t L ac w' hall hS hW
    have hfin := hS.final (by rw [hs]; kernel_rfl) hall
    have he : finAct opsR (VR p rv l i t) a00 13 = ((((((((((((a00.put (some 6) (ptr p)).put (some 7) (ptr p)).put (some 8) (ptr p)).put (some 9) (.pointer (some ⟨p, 196, none⟩))).put (some 10) (rv)).put (some 11) (.agg #[.int .i32 l])).put (some 12) (.agg #[.int .u32 0, .int .u32 i])).put (some 13) (.agg #[.int .i32 l, .int .u32 0, .int .u32 i])).put (some 14) (.slice (some ⟨t.g, 0, none⟩) 1 1)).put (some 15) (t.v)).put (some 16) (ptr p)).put (some 17) (.pointer (some ⟨p, 196, none⟩))) := by kernel_rfl
    rw [sizeR, he] at hfin
    rw [hfin]
    obtain ⟨w2, h1, h2, rfl⟩ := hW.2.2.2 (hall 12 (by rw [sizeR]; omega))
    exact hQ t w2 h1 h2
end Go.Proofs.Ythhlioepgfjknaa.rl
