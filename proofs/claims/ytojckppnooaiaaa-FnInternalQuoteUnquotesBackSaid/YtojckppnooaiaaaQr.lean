/-
  A region that draws its order and appends some reckoned bytes: by an invariant.
-/
import Derived.Test.YtojckppnooaiaaaQe
import Derived.BigFrame
namespace Go.Proofs.Ytojckppnooaiaaa.qw
open Go.ChangeShapes Go.WideShapes Go.ChangeAt Go.RowKit Go.Deep Go.Proofs.Ytojckppnooaiaaa.qp
set_option linter.unusedVariables false
set_option linter.unusedSimpArgs false
set_option maxRecDepth 100000
theorem hex_at (d : Nat) (h : d < 16) : ∀ h', (({ data := #[48, 49, 50, 51, 52, 53, 54, 55, 56, 57, 65, 66, 67, 68, 69, 70] } : ByteArray)[d]'h').toNat = (hx d).toNat := by
  intro h'
  match d, h with
  | 0, _ => rfl
  | 1, _ => rfl
  | 2, _ => rfl
  | 3, _ => rfl
  | 4, _ => rfl
  | 5, _ => rfl
  | 6, _ => rfl
  | 7, _ => rfl
  | 8, _ => rfl
  | 9, _ => rfl
  | 10, _ => rfl
  | 11, _ => rfl
  | 12, _ => rfl
  | 13, _ => rfl
  | 14, _ => rfl
  | 15, _ => rfl
  | d + 16, h => omega
def hexS : ByteArray := { data := #[48, 49, 50, 51, 52, 53, 54, 55, 56, 57, 65, 66, 67, 68, 69, 70] }
theorem hx_nn (d : Nat) : (((hx d).toNat : Nat) : Int) = hx d := by unfold hx; split <;> omega
theorem wraps32 (n : Int) (h₀ : 0 ≤ n) (h₁ : n < 2 ^ 31) : IntKind.i32.wrap n = n := wraps_i32 n h₀ h₁
theorem k15 (x : Nat) (h : x < 2000000) : bits .and .i32 (x : Int) 15 = ((x % 16 : Nat) : Int) := by
  have := bits_mask .i32 31 (by decide) wraps_i32 4 (by decide) x (by omega) (by omega); simpa using this
theorem k1023 (x : Nat) (h : x < 2000000) : bits .and .i32 (x : Int) 1023 = ((x % 1024 : Nat) : Int) := by
  have := bits_mask .i32 31 (by decide) wraps_i32 10 (by decide) x (by omega) (by omega); simpa using this
theorem l15 (x : Nat) (h : x < 2000000) : bits .and .i64 (x : Int) 15 = ((x % 16 : Nat) : Int) := by
  have := bits_mask .i64 62 (by decide) wraps_i64 4 (by decide) x (by omega) (by omega); simpa using this
theorem l1023 (x : Nat) (h : x < 2000000) : bits .and .i64 (x : Int) 1023 = ((x % 1024 : Nat) : Int) := by
  have := bits_mask .i64 62 (by decide) wraps_i64 10 (by decide) x (by omega) (by omega); simpa using this
/-- The four digits of c, as the walks meet them. -/
structure Hx (c d1 x2 d2 x3 d3 d4 n1 n2 n3 n4 : Nat) : Prop where
  q1 : (c : Int) / 4096 = (d1 : Int)
  q2 : (c : Int) / 256 = (x2 : Int)
  q3 : (c : Int) / 16 = (x3 : Int)
  a2 : bits .and .i32 (x2 : Int) 15 = (d2 : Int)
  a3 : bits .and .i32 (x3 : Int) 15 = (d3 : Int)
  a4 : bits .and .i32 (c : Int) 15 = (d4 : Int)
  b1 : bits .and .i64 (d1 : Int) 15 = (d1 : Int)
  b2 : bits .and .i64 (x2 : Int) 15 = (d2 : Int)
  b3 : bits .and .i64 (x3 : Int) 15 = (d3 : Int)
  b4 : bits .and .i64 (c : Int) 15 = (d4 : Int)
  l1 : d1 < 16
  l2 : d2 < 16
  l3 : d3 < 16
  l4 : d4 < 16
  m2 : x2 < 256
  m3 : x3 < 4096
  h1 : ∀ h', (({ data := #[48, 49, 50, 51, 52, 53, 54, 55, 56, 57, 65, 66, 67, 68, 69, 70] } : ByteArray)[d1]'h').toNat = n1
  h2 : ∀ h', (({ data := #[48, 49, 50, 51, 52, 53, 54, 55, 56, 57, 65, 66, 67, 68, 69, 70] } : ByteArray)[d2]'h').toNat = n2
  h3 : ∀ h', (({ data := #[48, 49, 50, 51, 52, 53, 54, 55, 56, 57, 65, 66, 67, 68, 69, 70] } : ByteArray)[d3]'h').toNat = n3
  h4 : ∀ h', (({ data := #[48, 49, 50, 51, 52, 53, 54, 55, 56, 57, 65, 66, 67, 68, 69, 70] } : ByteArray)[d4]'h').toNat = n4
  hu : hu c = [92, 117, (n1 : Int), (n2 : Int), (n3 : Int), (n4 : Int)]
theorem hex4 (c : Nat) (hc : c < 65536) : ∃ d1 x2 d2 x3 d3 d4 n1 n2 n3 n4, Hx c d1 x2 d2 x3 d3 d4 n1 n2 n3 n4 := by
  refine ⟨c / 4096, c / 256, c / 256 % 16, c / 16, c / 16 % 16, c % 16, _, _, _, _, by omega, by omega, by omega, k15 _ (by omega), k15 _ (by omega), k15 _ (by omega), ?_, l15 _ (by omega), l15 _ (by omega), l15 _ (by omega), by omega, by omega, by omega, by omega, by omega, by omega,
    hex_at _ (by omega), hex_at _ (by omega), hex_at _ (by omega), hex_at _ (by omega), ?_⟩
  · rw [l15 _ (by omega)]; omega
  · rw [hx_nn, hx_nn, hx_nn, hx_nn]
    unfold qp.hu
    rw [show c / 4096 % 16 = c / 4096 by omega]

section
variable {P : Program} {ops : Array Oper} {Q : Exit → Act → World → Prop}

theorem count_set_true : ∀ (l : List Bool) (i : Nat), l[i]? = some false → (l.set i true).count false + 1 = l.count false
  | [], i, h => by simp at h
  | b :: l, 0, h => by
    simp only [List.getElem?_cons_zero, Option.some.injEq] at h
    subst h
    simp
  | b :: l, i + 1, h => by
    have ih := count_set_true l i (by simpa using h)
    simp only [List.set_cons_succ, List.count_cons]
    omega
theorem getD_false_of {L : Array Bool} {i : Nat} (h : L.getD i true = false) : L.toList[i]? = some false := by
  rw [Array.getElem?_toList]
  rw [Array.getD_eq_getD_getElem?] at h
  cases e : L[i]? with
  | none => simp [e] at h
  | some b => simp [e] at h; rw [h]
theorem getD_true_of {L : Array Bool} {i : Nat} (hi : i < L.size) (h : L.getD i true ≠ false) : L.getD i false = true := by
  rw [Array.getD_eq_getD_getElem?] at h ⊢
  rw [Array.getElem?_eq_getElem hi] at h ⊢
  simpa using h
/-- Every edge that binds leads backwards. -/
def backB (ops : Array Oper) : Bool := (List.range ops.size).all fun i => ((ops[i]?).map fun o => o.after.all fun e => !Region.binds .any e || decide (e.on < i)).getD true
theorem back_of (hb : backB ops = true) {i : Nat} {o : Oper} (ho : ops[i]? = some o) : ∀ e ∈ o.after, Region.binds .any e = true → e.on < i := by
  have hi : i < ops.size := (Array.getElem?_eq_some_iff.1 ho).1
  have h := List.all_eq_true.1 hb i (by simpa using hi)
  simp only [ho, Option.map_some, Option.getD_some, Array.all_eq_true_iff_forall_mem] at h
  intro e he hbd
  have := h e he
  rw [hbd] at this
  simpa using this
/-- While one has not come up, one may come up. -/
theorem ready_ne (hb : backB ops = true) {L : Array Bool} (hs : L.size = ops.size) : ∀ (n j : Nat), j < n → j < ops.size → L.getD j true = false → Region.ready .any ops L ≠ [] := by
  intro n
  induction n with
  | zero => intro j h; omega
  | succ n ih =>
    intro j hjn hj hu
    have ho : ops[j]? = some ops[j] := Array.getElem?_eq_getElem hj
    by_cases hall : ∀ e ∈ ops[j].after, Region.binds .any e = true → L.getD e.on true ≠ false
    · intro h0
      have hm : j ∈ Region.ready .any ops L := mem_ready.2 ⟨hu, _, ho, fun e he hbd => getD_true_of (by have := back_of hb ho e he hbd; omega) (hall e he hbd)⟩
      rw [h0] at hm
      cases hm
    · obtain ⟨e, he⟩ := Classical.not_forall.1 hall
      obtain ⟨hm, hl⟩ := Classical.not_imp.1 he
      obtain ⟨hbd, hl⟩ := Classical.not_imp.1 hl
      have hlt := back_of hb ho e hm hbd
      exact ih e.on (by omega) (by omega) (Classical.not_not.1 hl)

theorem wpAny_inv (I : Array Bool → Act → World → Prop) (hb : backB ops = true)
    (hstep : ∀ (i : Nat) (o : Oper) (L : Array Bool) (a : Act) (w : World), ops[i]? = some o → L.size = ops.size → L.getD i true = false →
      (∀ e ∈ o.after, Region.binds .any e = true → L.getD e.on false = true) → I L a w → wpOp P ops Q i (I (L.setIfInBounds i true)) a w)
    (hend : ∀ (L : Array Bool) (a : Act) (w : World), (∀ j, j < ops.size → L.getD j false = true) → I L a w → Q .normal a w) :
    ∀ (fuel : Nat) (L : Array Bool) (a : Act) (w : World), L.size = ops.size → L.toList.count false ≤ fuel → I L a w → wpAny P .any ops Q fuel L a w := by
  have fin : ∀ (L : Array Bool) (a : Act) (w : World), L.size = ops.size → Region.ready .any ops L = [] → I L a w → Q .normal a w := fun L a w hs h0 hI =>
    hend L a w (fun j hj => getD_true_of (by omega) fun hf => ready_ne hb hs (j + 1) j (by omega) hj hf h0) hI
  intro fuel
  induction fuel with
  | zero =>
    intro L a w hs hc hI
    have h0 : Region.ready .any ops L = [] := by
      cases hr : Region.ready .any ops L with
      | nil => rfl
      | cons i rest =>
        have hm : i ∈ Region.ready .any ops L := by rw [hr]; exact List.mem_cons_self ..
        have := count_set_true L.toList i (getD_false_of (mem_ready.1 hm).1)
        omega
    exact ⟨h0, fin L a w hs h0 hI⟩
  | succ fuel ih =>
    intro L a w hs hc hI
    refine ⟨fun h0 => fin L a w hs h0 hI, fun i hi => ?_⟩
    obtain ⟨hu, o, ho, hall⟩ := mem_ready.1 hi
    refine wpOp_mono (fun a' w' hI' => ih _ a' w' (by simpa using hs) ?_ hI') (hstep i o L a w ho hs hu hall hI)
    have h1 := count_set_true L.toList i (getD_false_of hu)
    have h2 : (L.setIfInBounds i true).toList = L.toList.set i true := by simp
    rw [h2]
    omega

theorem wp_region_inv {id : Nat} {a : Act} {w : World} (hm : P.follows .mixedOrders = true) (I : Array Bool → Act → World → Prop) (hb : backB ops = true)
    (h0 : I (Array.replicate ops.size false) a w.drew)
    (hstep : ∀ (i : Nat) (o : Oper) (L : Array Bool) (a : Act) (w : World), ops[i]? = some o → L.size = ops.size → L.getD i true = false →
      (∀ e ∈ o.after, Region.binds .any e = true → L.getD e.on false = true) → I L a w → wpOp P ops Q i (I (L.setIfInBounds i true)) a w)
    (hend : ∀ (L : Array Bool) (a : Act) (w : World), (∀ j, j < ops.size → L.getD j false = true) → I L a w → Q .normal a w) :
    (Code.region id ops true).wp P Q a w :=
  wp_region_any hm (wpAny_inv I hb hstep hend _ _ _ _ (by simp) (by simp) h0)

/-- The slot that operation j leaves its value in. -/
def dstAt (ops : Array Oper) (j : Nat) : Option Tmp := (ops[j]?).bind (·.dst)
/-- No operation is guarded; each writes a slot of its own, inside the frame. -/
def slotsB (ops : Array Oper) (N : Nat) : Bool :=
  (List.range ops.size).all fun i => ((ops[i]?).map fun o => o.guard.isNone).getD true && (match dstAt ops i with | some d => decide (d < N) | none => true) && (List.range ops.size).all fun j => i == j || (dstAt ops i).isNone || dstAt ops i != dstAt ops j
theorem slots_guard {N : Nat} (h : slotsB ops N = true) {i : Nat} {o : Oper} (ho : ops[i]? = some o) : o.guard = none := by
  have hi : i < ops.size := (Array.getElem?_eq_some_iff.1 ho).1
  have k := List.all_eq_true.1 h i (by simpa using hi)
  simp only [Bool.and_eq_true, ho, Option.map_some, Option.getD_some] at k
  simpa using k.1.1
theorem dst_lt {i d : Nat} (h : dstAt ops i = some d) : i < ops.size := by
  unfold dstAt at h
  cases e : ops[i]? with
  | none => simp [e] at h
  | some o => exact (Array.getElem?_eq_some_iff.1 e).1
theorem slots_lt {N : Nat} (h : slotsB ops N = true) {i d : Nat} (hd : dstAt ops i = some d) : d < N := by
  have k := List.all_eq_true.1 h i (by simpa using dst_lt hd)
  simp only [Bool.and_eq_true, hd] at k
  simpa using k.1.2
theorem slots_inj {N : Nat} (h : slotsB ops N = true) {i j d : Nat} (hi : dstAt ops i = some d) (hj : dstAt ops j = some d) : i = j := by
  have k := List.all_eq_true.1 h i (by simpa using dst_lt hi)
  simp only [Bool.and_eq_true] at k
  have k2 := List.all_eq_true.1 k.2 j (by simpa using dst_lt hj)
  simp only [hi, hj, Option.isNone_some, Bool.or_false, bne_self_eq_false] at k2
  simpa using k2
theorem tmps_put_same {a : Act} {d : Nat} {v : Value} (h : d < a.tmps.size) : (a.put (some d) v).tmps.getD d undef = v := by
  simp [Act.put, Array.getD_eq_getD_getElem?, h]
theorem tmps_put_ne {a : Act} {d e : Nat} {v : Value} (h : d ≠ e) : (a.put (some d) v).tmps.getD e undef = a.tmps.getD e undef := by
  simp [Act.put, Array.getD_eq_getD_getElem?, Array.getElem?_setIfInBounds_ne h]
theorem size_put (a : Act) (d : Option Tmp) (v : Value) : (a.put d v).tmps.size = a.tmps.size := by cases d <;> simp [Act.put]
theorem defers_put (a : Act) (d : Option Tmp) (v : Value) : (a.put d v).defers = a.defers := by cases d <;> rfl

/-- The frame behind the region: each slot written, in the order of the text. -/
def finAct (ops : Array Oper) (V : Nat → Value) (a0 : Act) : Nat → Act
  | 0 => a0
  | k + 1 => (finAct ops V a0 k).put (dstAt ops k) (V k)
theorem fin_spec {V : Nat → Value} {a0 : Act} (hB : slotsB ops a0.tmps.size = true) : ∀ k, (finAct ops V a0 k).defers = a0.defers ∧ (finAct ops V a0 k).tmps.size = a0.tmps.size ∧
    (∀ d, (∀ j, j < k → dstAt ops j ≠ some d) → (finAct ops V a0 k).tmps.getD d undef = a0.tmps.getD d undef) ∧
    ∀ j d, j < k → dstAt ops j = some d → (finAct ops V a0 k).tmps.getD d undef = V j := by
  intro k
  induction k with
  | zero => exact ⟨rfl, rfl, fun _ _ => rfl, fun j d h => by omega⟩
  | succ k ih =>
    obtain ⟨h1, h2, h3, h4⟩ := ih
    refine ⟨(defers_put ..).trans h1, (size_put ..).trans h2, fun d hd => ?_, fun j d hj hd => ?_⟩
    · rw [← h3 d fun j hj => hd j (by omega)]
      show ((finAct ops V a0 k).put (dstAt ops k) (V k)).tmps.getD d undef = _
      cases e : dstAt ops k with
      | none => rfl
      | some x => exact tmps_put_ne fun hx => hd k (by omega) (by rw [e, hx])
    · show ((finAct ops V a0 k).put (dstAt ops k) (V k)).tmps.getD d undef = _
      by_cases hjk : j = k
      · subst hjk
        rw [hd]
        exact tmps_put_same (by rw [h2]; exact slots_lt hB hd)
      · rw [← h4 j d (by omega) hd]
        cases e : dstAt ops k with
        | none => rfl
        | some x => exact tmps_put_ne fun hx => hjk (slots_inj hB hd (by rw [e, hx]))

/-- What is known of the frame while the operations come up: those that have come up have left V j, the other slots are as they were. -/
def Sl (ops : Array Oper) (V : Nat → Value) (a0 : Act) (L : Array Bool) (a : Act) : Prop :=
  a.defers = a0.defers ∧ a.tmps.size = a0.tmps.size ∧ (∀ d, (∀ j, L.getD j false = true → dstAt ops j ≠ some d) → a.tmps.getD d undef = a0.tmps.getD d undef) ∧
  ∀ j d, L.getD j false = true → dstAt ops j = some d → a.tmps.getD d undef = V j
theorem getD_set_same {L : Array Bool} {i : Nat} (h : i < L.size) : (L.setIfInBounds i true).getD i false = true := by
  simp [Array.getD_eq_getD_getElem?, h]
theorem getD_set_other {L : Array Bool} {i j : Nat} (h : i ≠ j) (b : Bool) : (L.setIfInBounds i true).getD j b = L.getD j b := by
  simp [Array.getD_eq_getD_getElem?, Array.getElem?_setIfInBounds_ne h]
theorem Sl.next {V V' : Nat → Value} {a0 a : Act} {L : Array Bool} {i : Nat} {o : Oper} (hB : slotsB ops a0.tmps.size = true) (hi : ops[i]? = some o) (hLs : L.size = ops.size) (h : Sl ops V a0 L a)
    (hV : ∀ j, L.getD j false = true → V' j = V j) : Sl ops V' a0 (L.setIfInBounds i true) (a.put o.dst (V' i)) := by
  obtain ⟨h1, h2, h3, h4⟩ := h
  have hdi : dstAt ops i = o.dst := by unfold dstAt; rw [hi]; rfl
  refine ⟨(defers_put ..).trans h1, (size_put ..).trans h2, fun d hd => ?_, fun j d hj hd => ?_⟩
  · have hlt : i < L.size := by rw [hLs]; exact (Array.getElem?_eq_some_iff.1 hi).1
    have hx : o.dst ≠ some d := by rw [← hdi]; exact hd i (getD_set_same hlt)
    rw [← h3 d fun j hj => hd j (by
      by_cases e : i = j
      · subst e; exact getD_set_same hlt
      · rw [getD_set_other e]; exact hj)]
    cases e : o.dst with
    | none => rfl
    | some x => exact tmps_put_ne fun hx' => hx (by rw [e, hx'])
  · by_cases hji : i = j
    · subst hji
      rw [hdi] at hd
      rw [hd]
      exact tmps_put_same (by rw [h2]; exact slots_lt hB (hdi.trans hd))
    · rw [getD_set_other hji] at hj
      rw [hV j hj, ← h4 j d hj hd]
      cases e : o.dst with
      | none => rfl
      | some x => exact tmps_put_ne fun hx => hji (slots_inj hB (hdi.trans (by rw [e, hx])) hd)
theorem Sl.final {V : Nat → Value} {a0 a : Act} {L : Array Bool} (hB : slotsB ops a0.tmps.size = true) (h : Sl ops V a0 L a) (hall : ∀ j, j < ops.size → L.getD j false = true) :
    a = finAct ops V a0 ops.size := by
  obtain ⟨h1, h2, h3, h4⟩ := h
  obtain ⟨f1, f2, f3, f4⟩ := fin_spec (V := V) hB ops.size
  have ht : a.tmps = (finAct ops V a0 ops.size).tmps := by
    apply Array.ext (h2.trans f2.symm)
    intro d hd hd'
    have e : a.tmps.getD d undef = (finAct ops V a0 ops.size).tmps.getD d undef := by
      by_cases hx : ∃ j, dstAt ops j = some d
      · obtain ⟨j, hj⟩ := hx
        rw [h4 j d (hall j (dst_lt hj)) hj, f4 j d (dst_lt hj) hj]
      · have hn : ∀ j, dstAt ops j ≠ some d := fun j hj => hx ⟨j, hj⟩
        rw [h3 d fun j _ => hn j, f3 d fun j _ => hn j]
    simpa [Array.getD_eq_getD_getElem?, hd, hd'] using e
  cases a
  cases hf : finAct ops V a0 ops.size
  rw [hf] at ht f1
  simp only at ht h1 f1
  rw [ht, h1, f1]

/-- A REGION THAT DRAWS ITS ORDER, NO OPERATION GUARDED: V tells what each operation yields (as a function of what is found on the way), W what is known of the world: each operation by itself, from those that it waits for. -/
theorem wp_region_sl {Θ : Type} {id : Nat} {a0 : Act} {w : World} (hm : P.follows .mixedOrders = true) (V : Θ → Nat → Value) (W : Θ → Array Bool → World → Prop) (hb : backB ops = true) (hB : slotsB ops a0.tmps.size = true) (t0 : Θ)
    (h0 : W t0 (Array.replicate ops.size false) w.drew)
    (hstep : ∀ (i : Nat) (o : Oper) (t : Θ) (L : Array Bool) (a : Act) (w : World), ops[i]? = some o → L.size = ops.size → L.getD i true = false →
      (∀ e ∈ o.after, Region.binds .any e = true → L.getD e.on false = true) → Sl ops (V t) a0 L a → W t L w →
      o.wp P a w (fun a' w' => ∃ t', a' = a.put o.dst (V t' i) ∧ (∀ j, L.getD j false = true → V t' j = V t j) ∧ W t' (L.setIfInBounds i true) w') Q)
    (hend : ∀ (t : Θ) (L : Array Bool) (a : Act) (w : World), (∀ j, j < ops.size → L.getD j false = true) → Sl ops (V t) a0 L a → W t L w → Q .normal a w) :
    (Code.region id ops true).wp P Q a0 w := by
  refine wp_region_inv hm (fun L a w => ∃ t, Sl ops (V t) a0 L a ∧ W t L w) hb ⟨t0, ⟨rfl, rfl, fun _ _ => rfl, fun j d hj => ?_⟩, h0⟩ ?_ ?_
  · rw [Array.getD_eq_getD_getElem?, Array.getElem?_replicate] at hj
    split at hj <;> simp at hj
  · rintro i o L a w ho hs hu hall ⟨t, hS, hW⟩
    unfold wpOp
    simp only [ho, Region.wanted, slots_guard hB ho, if_true]
    refine .inl (Oper.wp_mono ?_ (hstep i o t L a w ho hs hu hall hS hW))
    rintro a' w' ⟨t', rfl, hV, hW'⟩
    exact ⟨t', Sl.next hB ho hs hS hV, hW'⟩
  · rintro L a w hall ⟨t, hS, hW⟩
    exact hend t L a w hall hS hW
end

/-- The operations of region k of a body. -/
def regOps (k : Nat) : Code → Option (Array Oper)
  | .region id ops _ => if id == k then some ops else none
  | .seq a b => match regOps k a with
    | some x => some x
    | none => regOps k b
  | .cond _ a b => match regOps k a with
    | some x => some x
    | none => regOps k b
  | .block _ c => regOps k c
  | .loop c => regOps k c
  | .scope c => regOps k c
  | _ => none
section
variable {P : Program} {ops : Array Oper} {Q : Exit → Act → World → Prop} {a a0 : Act} {w : World} {o : Oper} {L : Array Bool} {i : Nat} {V : Nat → Value}
theorem reg_use {ops' : Array Oper} {id : Nat} {b : Bool} (h : ops' = ops) (k : (Code.region id ops b).wp P Q a w) : (Code.region id ops' b).wp P Q a w := by rw [h]; exact k
theorem at_op {q : Op} (h : (ops[i]?).map (·.op) = some q) (ho : ops[i]? = some o) : o.op = q := by
  rw [ho] at h
  simpa using h
theorem at_dst {d : Option Tmp} (h : (ops[i]?).map (·.dst) = some d) (ho : ops[i]? = some o) : o.dst = d := by
  rw [ho] at h
  simpa using h
/-- Operation i waits for operation p. -/
def depB (ops : Array Oper) (i p : Nat) : Bool := ((ops[i]?).map fun o => o.after.any fun e => e.on == p && Region.binds .any e).getD false
theorem dep_listed {p : Nat} (he : depB ops i p = true) (ho : ops[i]? = some o) (hall : ∀ e ∈ o.after, Region.binds .any e = true → L.getD e.on false = true) : L.getD p false = true := by
  unfold depB at he
  simp only [ho, Option.map_some, Option.getD_some] at he
  obtain ⟨e, hm, hp⟩ := Array.any_eq_true'.1 he
  simp only [Bool.and_eq_true, beq_iff_eq] at hp
  rw [← hp.1]
  exact hall e hm hp.2
theorem Sl.arg {p d : Nat} (hS : Sl ops V a0 L a) (ho : ops[i]? = some o) (hall : ∀ e ∈ o.after, Region.binds .any e = true → L.getD e.on false = true) (he : depB ops i p = true) (hd : dstAt ops p = some d) : a.eval (.tmp d) = V p :=
  hS.2.2.2 p d (dep_listed he ho hall) hd
def outB (ops : Array Oper) (d : Nat) : Bool := (List.range ops.size).all fun j => dstAt ops j != some d
theorem Sl.out {d : Nat} (hS : Sl ops V a0 L a) (h : outB ops d = true) : a.eval (.tmp d) = a0.eval (.tmp d) :=
  hS.2.2.1 d fun j _ hj => by
    have := List.all_eq_true.1 h j (by simpa using dst_lt hj)
    simp [hj] at this
/-- Slot d is written by operation z alone, and z has not come up. -/
theorem Sl.outU {d z : Nat} (hS : Sl ops V a0 L a) (hB : slotsB ops a0.tmps.size = true) (hz : dstAt ops z = some d) (hl : L.getD z false = false) : a.eval (.tmp d) = a0.eval (.tmp d) :=
  hS.2.2.1 d fun j hj hd => by
    have := slots_inj hB hd hz
    subst this
    rw [hl] at hj; cases hj
/-- An operation that yields its value and leaves the world alone. -/
theorem pure_op {Θ : Type} {V : Θ → Nat → Value} {W : Θ → Array Bool → World → Prop} {t : Θ} {v : Value} (hrun : (execOp a.eval o).run P w = .ok (.value v) w) (hv : v = V t i) (hW : W t (L.setIfInBounds i true) w) :
    o.wp P a w (fun a' w' => ∃ t', a' = a.put o.dst (V t' i) ∧ (∀ j, L.getD j false = true → V t' j = V t j) ∧ W t' (L.setIfInBounds i true) w') Q := by
  unfold Oper.wp
  rw [hrun, Oper.upon_value]
  exact ⟨t, by rw [hv], fun _ _ => rfl, hW⟩
theorem getD_false_of_unlisted {i : Nat} (h : L.getD i true = false) : L.getD i false = false := by
  rw [Array.getD_eq_getD_getElem?] at h ⊢
  cases e : L[i]? with
  | none => simp [e] at h
  | some b => simp [e] at h ⊢; exact h
theorem k_move (x : Operand) (ho : o.op = .move x) {v : Value} (hx : a.eval x = v) : (execOp a.eval o).run P w = .ok (.value v) w := by rw [BigFrame.run_move x ho, hx]
/-- A call of a Go function. -/
theorem k_call {K : Act → World → Prop} {f : FuncId} {args : Array Value} (hrun : (execOp a.eval o).run P w = .ok (.enter f args) w) {R : Value → World → Prop} (hc : Calls P f args w fun e w' => ∃ v, e = .returned v ∧ R v w') (hK : ∀ v w', R v w' → K (a.put o.dst v) w') : o.wp P a w K Q := by
  unfold Oper.wp
  rw [hrun, Oper.upon_enter]
  refine hc.mono ?_
  rintro e w' ⟨v, rfl, hv⟩
  exact hK v w' hv
end

structure Tg where
  g : Nat
  v : Value
/-- What is known of the world: B = the literal's block is laid, A = it has been appended. -/
def Wl (W0 : World) (v : Value) (ys news : List Int) (i0 iB iA iZ : Nat) (t : Tg) (L : Array Bool) (w' : World) : Prop :=
  (L.getD iZ false = true → L.getD i0 false = true ∧ L.getD iA false = true) ∧ (L.getD iA false = true → L.getD iB false = true) ∧ (L.getD iA false = false → Ob W0 w' v ys) ∧
  (L.getD iB false = true → L.getD iA false = false → w'.heap[t.g]? = some (.cells (vs news).toArray 5 (0, 0))) ∧ (L.getD iA false = true → Ob W0 w' t.v (ys ++ news))
section
variable {W0 w' : World} {v : Value} {ys news : List Int} {i0 iB iA iZ : Nat} {t : Tg} {L : Array Bool}
theorem getD_grow {i j : Nat} (h : L.getD j false = true) : (L.setIfInBounds i true).getD j false = true := by
  by_cases e : i = j
  · subst e
    refine getD_set_same ?_
    rw [Array.getD_eq_getD_getElem?] at h
    cases e2 : L[i]? with
    | none => simp [e2] at h
    | some b => exact (Array.getElem?_eq_some_iff.1 e2).1
  · rw [getD_set_other e]; exact h
theorem Wl.next {i : Nat} (h : Wl W0 v ys news i0 iB iA iZ t L w') (hB : i ≠ iB) (hA : i ≠ iA) (hZ : i ≠ iZ) : Wl W0 v ys news i0 iB iA iZ t (L.setIfInBounds i true) w' := by
  unfold Wl
  rw [getD_set_other hB, getD_set_other hA, getD_set_other hZ]
  exact ⟨fun hz => ⟨getD_grow (h.1 hz).1, (h.1 hz).2⟩, h.2⟩
theorem Wl.fin (h : Wl W0 v ys news i0 iB iA iZ t L w') (hBZ : iZ ≠ iB) (hAZ : iZ ≠ iA) (h0 : L.getD i0 false = true) (hA : L.getD iA false = true) : Wl W0 v ys news i0 iB iA iZ t (L.setIfInBounds iZ true) w' := by
  unfold Wl
  rw [getD_set_other hBZ, getD_set_other hAZ]
  exact ⟨fun _ => ⟨getD_grow h0, hA⟩, h.2⟩
theorem Wl.build (h : Wl W0 v ys news i0 iB iA iZ t L w') (hBA : iB ≠ iA) (hBZ : iB ≠ iZ) (hu : L.getD iB false = false) (arr : Array Value) (harr : arr = (vs news).toArray) : Wl W0 v ys news i0 iB iA iZ ⟨w'.heap.size, t.v⟩ (L.setIfInBounds iB true) (w'.alloc (.cells arr 5)) := by
  have hA : L.getD iA false = false := by
    cases e : L.getD iA false with
    | false => rfl
    | true => have := h.2.1 e; rw [hu] at this; cases this
  unfold Wl
  rw [getD_set_other hBA, getD_set_other hBZ]
  refine ⟨fun hz => ⟨getD_grow (h.1 hz).1, (h.1 hz).2⟩, fun hz => ?_, fun _ => (h.2.2.1 hA).alloc _, fun _ _ => ?_, fun hz => ?_⟩
  · rw [hA] at hz; cases hz
  · rw [harr]; exact heap_alloc_new w' _
  · rw [hA] at hz; cases hz
end
section
variable {ops : Array Oper} {Q : Exit → Act → World → Prop} {a a0 : Act} {w : World} {o : Oper}
theorem app_op {s x : Operand} (ho : o.op = .call { callee := .builtin .append, args := #[s, x], argTypes := #[24, 24] }) {K : Act → World → Prop}
    (W0 : World) (v : Value) (ys news : List Int) (g m c : Nat) (hm : m = news.length) (hs : a.eval s = v) (hb : Ob W0 w v ys) (hx : a.eval x = .slice (some ⟨g, 0, none⟩) m c)
    (hg : w.heap[g]? = some (.cells (vs news).toArray 5 (0, 0))) (hlen : ys.length + news.length ≤ 20000000) (hK : ∀ v' w2, Ob W0 w2 v' (ys ++ news) → K (a.put o.dst v') w2) : o.wp Try.prog a w K Q := by
  obtain ⟨i, hi, hz⟩ := Option.map_eq_some_iff.1 info8
  simp only [Prod.mk.injEq] at hz
  obtain ⟨hz, hsz, hby⟩ := hz
  subst hm
  have hn : ∀ j u, (vs news)[j]? = some u → w.cell? ((⟨g, 0, none⟩ : Addr).add j) = some u := by
    intro j u h
    have hc := cell_of_row w g j _ _ _ hg
    rw [Go.WideShapes.add_plain, Nat.zero_add, hc]
    simpa using h
  obtain ⟨v', w2, hr, h2, h3, h4⟩ := run_append_ownF (P := Try.prog) w W0.heap.size 24 o.type 5 i (.int .u8 0) 1 1 Try.underlying24 hi hz hsz hby rfl (by decide) v ys.length (vs ys) hb.1 ⟨g, 0, none⟩ news.length c (vs news) (by rw [vs_len]; omega) hn (ones8 news) (by unfold maxLen; omega) (by omega) hb.2.2
  unfold Oper.wp execOp
  simp only [ho, resolve, invoke, builtin, Sem.run_bind, Sem.run_pure, Result.andThen_ok, List.map_toArray, List.map_cons, List.map_nil, hs, hx, hr]
  refine hK v' w2 ?_
  have := Lib.OwnBuf.grown hb (v' := v') (n' := ys.length + news.length) (xs' := vs ys ++ vs news) h2 h3
  unfold Ob
  rw [vs_app, List.length_append]
  exact this
end
noncomputable def opsA : Array Oper := (Try.f13.body.bind (regOps 41)).getD #[]
theorem sizeA : opsA.size = 18 := by kernel_rfl
noncomputable def VA (v : Value) (c d1 x2 d2 x3 d3 d4 n1 n2 n3 n4 : Nat) (t : Tg) (i : Nat) : Value := if i = 15 then .slice (some ⟨t.g, 0, none⟩) 6 6 else if i = 16 then t.v else if i = 17 then t.v else [v, .int .i32 c, .int .i32 d1, .int .u8 n1, .int .i32 c, .int .i32 x2, .int .i32 d2, .int .u8 n2, .int .i32 c, .int .i32 x3, .int .i32 d3, .int .u8 n3, .int .i32 c, .int .i32 d4, .int .u8 n4, undef, undef, undef].getD i undef
theorem VA_g (v : Value) (c d1 x2 d2 x3 d3 d4 n1 n2 n3 n4 : Nat) (t : Tg) (g' : Nat) (j : Nat) (h : j ≠ 15) : VA v c d1 x2 d2 x3 d3 d4 n1 n2 n3 n4 ⟨g', t.v⟩ j = VA v c d1 x2 d2 x3 d3 d4 n1 n2 n3 n4 t j := by
  unfold VA
  rw [if_neg h, if_neg h]
theorem VA_v (v : Value) (c d1 x2 d2 x3 d3 d4 n1 n2 n3 n4 : Nat) (t : Tg) (v' : Value) (j : Nat) (h : j ≠ 16) (h2 : j ≠ 17) : VA v c d1 x2 d2 x3 d3 d4 n1 n2 n3 n4 ⟨t.g, v'⟩ j = VA v c d1 x2 d2 x3 d3 d4 n1 n2 n3 n4 t j := by
  unfold VA
  rw [if_neg h, if_neg h2, if_neg h, if_neg h2]
set_option maxHeartbeats 4000000 in
theorem regA {id : Nat} {a00 : Act} {Q : Exit → Act → World → Prop} (W0 w1 : World) (v : Value) (c d1 x2 d2 x3 d3 d4 n1 n2 n3 n4 : Nat) (ys : List Int) (hh : Hx c d1 x2 d2 x3 d3 d4 n1 n2 n3 n4) (hs : a00.tmps.size = 231) (h10 : a00.eval (.tmp 10) = v) (h13 : a00.eval (.tmp 13) = .int .i32 c) (hlen : ys.length + ([92, 117, (n1 : Int), (n2 : Int), (n3 : Int), (n4 : Int)] : List Int).length ≤ 20000000)
    (hOb : Ob W0 w1 v ys) (hQ : ∀ (t : Tg) (w' : World), Ob W0 w' t.v (ys ++ [92, 117, (n1 : Int), (n2 : Int), (n3 : Int), (n4 : Int)]) → Q .normal ((((((((((((((((((a00.put (some 112) (v)).put (some 113) (.int .i32 c)).put (some 114) (.int .i32 d1)).put (some 115) (.int .u8 n1)).put (some 116) (.int .i32 c)).put (some 117) (.int .i32 x2)).put (some 118) (.int .i32 d2)).put (some 119) (.int .u8 n2)).put (some 120) (.int .i32 c)).put (some 121) (.int .i32 x3)).put (some 122) (.int .i32 d3)).put (some 123) (.int .u8 n3)).put (some 124) (.int .i32 c)).put (some 125) (.int .i32 d4)).put (some 126) (.int .u8 n4)).put (some 127) (.slice (some ⟨t.g, 0, none⟩) 6 6)).put (some 128) (t.v)).put (some 10) (t.v)) w') :
    (Code.region id opsA true).wp Try.prog Q a00 w1 := by
  obtain ⟨q1, q2, q3, a2, a3, a4, b1, b2, b3, b4, l1, l2, l3, l4, m2, m3, k1, k2, k3, k4, hu⟩ := hh
  have hd1 : (d1 : Int) < 16 := by omega
  have hd2 : (d2 : Int) < 16 := by omega
  have hd3 : (d3 : Int) < 16 := by omega
  have hd4 : (d4 : Int) < 16 := by omega
  clear hu
  refine wp_region_sl (Θ := Tg) (by kernel_rfl) (fun t => VA v c d1 x2 d2 x3 d3 d4 n1 n2 n3 n4 t) (fun t => Wl W0 v ys ([92, 117, (n1 : Int), (n2 : Int), (n3 : Int), (n4 : Int)]) 0 15 16 17 t) (by kernel_rfl) (by rw [hs]; kernel_rfl) ⟨0, undef⟩ ?_ ?_ ?_
  · have hf : ∀ j, (Array.replicate opsA.size false).getD j false = false := fun j => by
      rw [Array.getD_eq_getD_getElem?, Array.getElem?_replicate]
      split <;> rfl
    unfold Wl
    rw [hf, hf, hf]
    exact ⟨(fun h => by cases h), (fun h => by cases h), fun _ => hOb.drew, (fun h => by cases h), (fun h => by cases h)⟩
  · intro i o t L ac w' ho hL hu hall hS hW
    have uf := getD_false_of_unlisted hu
    have hi : i < 18 := by rw [← sizeA]; exact (Array.getElem?_eq_some_iff.1 ho).1
    have rcs : i = 0 ∨ i = 1 ∨ i = 2 ∨ i = 3 ∨ i = 4 ∨ i = 5 ∨ i = 6 ∨ i = 7 ∨ i = 8 ∨ i = 9 ∨ i = 10 ∨ i = 11 ∨ i = 12 ∨ i = 13 ∨ i = 14 ∨ i = 15 ∨ i = 16 ∨ i = 17 := by omega
    rcases rcs with rfl | rfl | rfl | rfl | rfl | rfl | rfl | rfl | rfl | rfl | rfl | rfl | rfl | rfl | rfl | rfl | rfl | rfl
    · have ho1 := at_op (q := Op.move (Operand.tmp 10)) (by kernel_rfl) ho
      have hzl : L.getD 17 false = false := by
        cases e : L.getD 17 false with
        | false => rfl
        | true => have := (hW.1 e).1; rw [uf] at this; cases this
      have hx : ac.eval (.tmp 10) = v := (hS.outU (z := 17) (by rw [hs]; kernel_rfl) (by kernel_rfl) hzl).trans h10
      exact pure_op (t := t) (V := (fun t => VA v c d1 x2 d2 x3 d3 d4 n1 n2 n3 n4 t)) (W := (fun t => Wl W0 v ys ([92, 117, (n1 : Int), (n2 : Int), (n3 : Int), (n4 : Int)]) 0 15 16 17 t)) (v := v) (k_move _ ho1 hx) rfl (hW.next (i := 0) (by omega) (by omega) (by omega))
    · have ho1 := at_op (q := Op.move (Operand.tmp 13)) (by kernel_rfl) ho
      have hx : ac.eval (.tmp 13) = .int .i32 c := (hS.out (by kernel_rfl)).trans h13
      exact pure_op (t := t) (V := (fun t => VA v c d1 x2 d2 x3 d3 d4 n1 n2 n3 n4 t)) (W := (fun t => Wl W0 v ys ([92, 117, (n1 : Int), (n2 : Int), (n3 : Int), (n4 : Int)]) 0 15 16 17 t)) (v := .int .i32 c) (k_move _ ho1 hx) rfl (hW.next (i := 1) (by omega) (by omega) (by omega))
    · have ho1 := at_op (q := Op.binOp BinOp.shr 21 (Operand.tmp 113) (Operand.const (Value.int IntKind.u64 12)) 35) (by kernel_rfl) ho
      have hx0 : ac.eval (.tmp 113) = .int .i32 c := hS.arg (p := 1) (d := 113) ho hall (by kernel_rfl) (by kernel_rfl)
      refine pure_op (t := t) (V := (fun t => VA v c d1 x2 d2 x3 d3 d4 n1 n2 n3 n4 t)) (W := (fun t => Wl W0 v ys ([92, 117, (n1 : Int), (n2 : Int), (n3 : Int), (n4 : Int)]) 0 15 16 17 t)) (v := .int .i32 d1) ?_ rfl (hW.next (i := 2) (by omega) (by omega) (by omega))
      unfold execOp
      simp only [ho1, hx0]
      go_simp
    · have ho1 := at_op (q := Op.index 9 (Operand.const (Value.string { data := #[48, 49, 50, 51, 52, 53, 54, 55, 56, 57, 65, 66, 67, 68, 69, 70] })) (Operand.tmp 114)) (by kernel_rfl) ho
      have hx0 : ac.eval (.tmp 114) = .int .i32 d1 := hS.arg (p := 2) (d := 114) ho hall (by kernel_rfl) (by kernel_rfl)
      refine pure_op (t := t) (V := (fun t => VA v c d1 x2 d2 x3 d3 d4 n1 n2 n3 n4 t)) (W := (fun t => Wl W0 v ys ([92, 117, (n1 : Int), (n2 : Int), (n3 : Int), (n4 : Int)]) 0 15 16 17 t)) (v := .int .u8 n1) ?_ rfl (hW.next (i := 3) (by omega) (by omega) (by omega))
      unfold execOp
      simp only [ho1, hx0]
      go_simp
    · have ho1 := at_op (q := Op.move (Operand.tmp 13)) (by kernel_rfl) ho
      have hx : ac.eval (.tmp 13) = .int .i32 c := (hS.out (by kernel_rfl)).trans h13
      exact pure_op (t := t) (V := (fun t => VA v c d1 x2 d2 x3 d3 d4 n1 n2 n3 n4 t)) (W := (fun t => Wl W0 v ys ([92, 117, (n1 : Int), (n2 : Int), (n3 : Int), (n4 : Int)]) 0 15 16 17 t)) (v := .int .i32 c) (k_move _ ho1 hx) rfl (hW.next (i := 4) (by omega) (by omega) (by omega))
    · have ho1 := at_op (q := Op.binOp BinOp.shr 21 (Operand.tmp 116) (Operand.const (Value.int IntKind.u64 8)) 35) (by kernel_rfl) ho
      have hx0 : ac.eval (.tmp 116) = .int .i32 c := hS.arg (p := 4) (d := 116) ho hall (by kernel_rfl) (by kernel_rfl)
      refine pure_op (t := t) (V := (fun t => VA v c d1 x2 d2 x3 d3 d4 n1 n2 n3 n4 t)) (W := (fun t => Wl W0 v ys ([92, 117, (n1 : Int), (n2 : Int), (n3 : Int), (n4 : Int)]) 0 15 16 17 t)) (v := .int .i32 x2) ?_ rfl (hW.next (i := 5) (by omega) (by omega) (by omega))
      unfold execOp
      simp only [ho1, hx0]
      go_simp
    · have ho1 := at_op (q := Op.binOp BinOp.and 21 (Operand.tmp 117) (Operand.const (Value.int IntKind.i32 15)) 21) (by kernel_rfl) ho
      have hx0 : ac.eval (.tmp 117) = .int .i32 x2 := hS.arg (p := 5) (d := 117) ho hall (by kernel_rfl) (by kernel_rfl)
      refine pure_op (t := t) (V := (fun t => VA v c d1 x2 d2 x3 d3 d4 n1 n2 n3 n4 t)) (W := (fun t => Wl W0 v ys ([92, 117, (n1 : Int), (n2 : Int), (n3 : Int), (n4 : Int)]) 0 15 16 17 t)) (v := .int .i32 d2) ?_ rfl (hW.next (i := 6) (by omega) (by omega) (by omega))
      unfold execOp
      simp only [ho1, hx0]
      go_simp
    · have ho1 := at_op (q := Op.index 9 (Operand.const (Value.string { data := #[48, 49, 50, 51, 52, 53, 54, 55, 56, 57, 65, 66, 67, 68, 69, 70] })) (Operand.tmp 118)) (by kernel_rfl) ho
      have hx0 : ac.eval (.tmp 118) = .int .i32 d2 := hS.arg (p := 6) (d := 118) ho hall (by kernel_rfl) (by kernel_rfl)
      refine pure_op (t := t) (V := (fun t => VA v c d1 x2 d2 x3 d3 d4 n1 n2 n3 n4 t)) (W := (fun t => Wl W0 v ys ([92, 117, (n1 : Int), (n2 : Int), (n3 : Int), (n4 : Int)]) 0 15 16 17 t)) (v := .int .u8 n2) ?_ rfl (hW.next (i := 7) (by omega) (by omega) (by omega))
      unfold execOp
      simp only [ho1, hx0]
      go_simp
    · have ho1 := at_op (q := Op.move (Operand.tmp 13)) (by kernel_rfl) ho
      have hx : ac.eval (.tmp 13) = .int .i32 c := (hS.out (by kernel_rfl)).trans h13
      exact pure_op (t := t) (V := (fun t => VA v c d1 x2 d2 x3 d3 d4 n1 n2 n3 n4 t)) (W := (fun t => Wl W0 v ys ([92, 117, (n1 : Int), (n2 : Int), (n3 : Int), (n4 : Int)]) 0 15 16 17 t)) (v := .int .i32 c) (k_move _ ho1 hx) rfl (hW.next (i := 8) (by omega) (by omega) (by omega))
    · have ho1 := at_op (q := Op.binOp BinOp.shr 21 (Operand.tmp 120) (Operand.const (Value.int IntKind.u64 4)) 35) (by kernel_rfl) ho
      have hx0 : ac.eval (.tmp 120) = .int .i32 c := hS.arg (p := 8) (d := 120) ho hall (by kernel_rfl) (by kernel_rfl)
      refine pure_op (t := t) (V := (fun t => VA v c d1 x2 d2 x3 d3 d4 n1 n2 n3 n4 t)) (W := (fun t => Wl W0 v ys ([92, 117, (n1 : Int), (n2 : Int), (n3 : Int), (n4 : Int)]) 0 15 16 17 t)) (v := .int .i32 x3) ?_ rfl (hW.next (i := 9) (by omega) (by omega) (by omega))
      unfold execOp
      simp only [ho1, hx0]
      go_simp
    · have ho1 := at_op (q := Op.binOp BinOp.and 21 (Operand.tmp 121) (Operand.const (Value.int IntKind.i32 15)) 21) (by kernel_rfl) ho
      have hx0 : ac.eval (.tmp 121) = .int .i32 x3 := hS.arg (p := 9) (d := 121) ho hall (by kernel_rfl) (by kernel_rfl)
      refine pure_op (t := t) (V := (fun t => VA v c d1 x2 d2 x3 d3 d4 n1 n2 n3 n4 t)) (W := (fun t => Wl W0 v ys ([92, 117, (n1 : Int), (n2 : Int), (n3 : Int), (n4 : Int)]) 0 15 16 17 t)) (v := .int .i32 d3) ?_ rfl (hW.next (i := 10) (by omega) (by omega) (by omega))
      unfold execOp
      simp only [ho1, hx0]
      go_simp
    · have ho1 := at_op (q := Op.index 9 (Operand.const (Value.string { data := #[48, 49, 50, 51, 52, 53, 54, 55, 56, 57, 65, 66, 67, 68, 69, 70] })) (Operand.tmp 122)) (by kernel_rfl) ho
      have hx0 : ac.eval (.tmp 122) = .int .i32 d3 := hS.arg (p := 10) (d := 122) ho hall (by kernel_rfl) (by kernel_rfl)
      refine pure_op (t := t) (V := (fun t => VA v c d1 x2 d2 x3 d3 d4 n1 n2 n3 n4 t)) (W := (fun t => Wl W0 v ys ([92, 117, (n1 : Int), (n2 : Int), (n3 : Int), (n4 : Int)]) 0 15 16 17 t)) (v := .int .u8 n3) ?_ rfl (hW.next (i := 11) (by omega) (by omega) (by omega))
      unfold execOp
      simp only [ho1, hx0]
      go_simp
    · have ho1 := at_op (q := Op.move (Operand.tmp 13)) (by kernel_rfl) ho
      have hx : ac.eval (.tmp 13) = .int .i32 c := (hS.out (by kernel_rfl)).trans h13
      exact pure_op (t := t) (V := (fun t => VA v c d1 x2 d2 x3 d3 d4 n1 n2 n3 n4 t)) (W := (fun t => Wl W0 v ys ([92, 117, (n1 : Int), (n2 : Int), (n3 : Int), (n4 : Int)]) 0 15 16 17 t)) (v := .int .i32 c) (k_move _ ho1 hx) rfl (hW.next (i := 12) (by omega) (by omega) (by omega))
    · have ho1 := at_op (q := Op.binOp BinOp.and 21 (Operand.tmp 124) (Operand.const (Value.int IntKind.i32 15)) 21) (by kernel_rfl) ho
      have hx0 : ac.eval (.tmp 124) = .int .i32 c := hS.arg (p := 12) (d := 124) ho hall (by kernel_rfl) (by kernel_rfl)
      refine pure_op (t := t) (V := (fun t => VA v c d1 x2 d2 x3 d3 d4 n1 n2 n3 n4 t)) (W := (fun t => Wl W0 v ys ([92, 117, (n1 : Int), (n2 : Int), (n3 : Int), (n4 : Int)]) 0 15 16 17 t)) (v := .int .i32 d4) ?_ rfl (hW.next (i := 13) (by omega) (by omega) (by omega))
      unfold execOp
      simp only [ho1, hx0]
      go_simp
    · have ho1 := at_op (q := Op.index 9 (Operand.const (Value.string { data := #[48, 49, 50, 51, 52, 53, 54, 55, 56, 57, 65, 66, 67, 68, 69, 70] })) (Operand.tmp 125)) (by kernel_rfl) ho
      have hx0 : ac.eval (.tmp 125) = .int .i32 d4 := hS.arg (p := 13) (d := 125) ho hall (by kernel_rfl) (by kernel_rfl)
      refine pure_op (t := t) (V := (fun t => VA v c d1 x2 d2 x3 d3 d4 n1 n2 n3 n4 t)) (W := (fun t => Wl W0 v ys ([92, 117, (n1 : Int), (n2 : Int), (n3 : Int), (n4 : Int)]) 0 15 16 17 t)) (v := .int .u8 n4) ?_ rfl (hW.next (i := 14) (by omega) (by omega) (by omega))
      unfold execOp
      simp only [ho1, hx0]
      go_simp
    · have ho1 := at_op (q := Op.buildSlice 24 6 #[(0, Operand.const (Value.int IntKind.u8 92)), (1, Operand.const (Value.int IntKind.u8 117)), (2, Operand.tmp 115), (3, Operand.tmp 119), (4, Operand.tmp 123), (5, Operand.tmp 126)]) (by kernel_rfl) ho
      have hx0 : ac.eval (.tmp 115) = .int .u8 n1 := hS.arg (p := 3) (d := 115) ho hall (by kernel_rfl) (by kernel_rfl)
      have hx1 : ac.eval (.tmp 119) = .int .u8 n2 := hS.arg (p := 7) (d := 119) ho hall (by kernel_rfl) (by kernel_rfl)
      have hx2 : ac.eval (.tmp 123) = .int .u8 n3 := hS.arg (p := 11) (d := 123) ho hall (by kernel_rfl) (by kernel_rfl)
      have hx3 : ac.eval (.tmp 126) = .int .u8 n4 := hS.arg (p := 14) (d := 126) ho hall (by kernel_rfl) (by kernel_rfl)
      have hrun : (execOp ac.eval o).run Try.prog w' = .ok (.value (.slice (some ⟨w'.heap.size, 0, none⟩) 6 6)) (w'.alloc (.cells (vs ([92, 117, (n1 : Int), (n2 : Int), (n3 : Int), (n4 : Int)])).toArray 5)) := by
        unfold execOp
        simp only [ho1, List.map_toArray, List.map_cons, List.map_nil, hx0, hx1, hx2, hx3]
        go_simp
        rfl
      unfold Oper.wp
      rw [hrun, Oper.upon_value]
      exact ⟨⟨w'.heap.size, t.v⟩, rfl, fun j hj => VA_g v c d1 x2 d2 x3 d3 d4 n1 n2 n3 n4 t _ j (by rintro rfl; rw [uf] at hj; cases hj), hW.build (by omega) (by omega) uf _ rfl⟩
    · have ho1 := at_op (q := Op.call { callee := Callee.builtin Builtin.append, args := #[Operand.tmp 112, Operand.tmp 127], argTypes := #[24, 24] }) (by kernel_rfl) ho
      have hx0 : ac.eval (.tmp 112) = v := hS.arg (p := 0) (d := 112) ho hall (by kernel_rfl) (by kernel_rfl)
      have hx1 : ac.eval (.tmp 127) = .slice (some ⟨t.g, 0, none⟩) 6 6 := hS.arg (p := 15) (d := 127) ho hall (by kernel_rfl) (by kernel_rfl)
      have hBl : L.getD 15 false = true := dep_listed (p := 15) (by kernel_rfl) ho hall
      refine app_op ho1 W0 v ys ([92, 117, (n1 : Int), (n2 : Int), (n3 : Int), (n4 : Int)]) t.g 6 _ rfl hx0 (hW.2.2.1 uf) hx1 (hW.2.2.2.1 hBl uf) hlen ?_
      intro v' w2 hb2
      refine ⟨⟨t.g, v'⟩, rfl, fun j hj => VA_v v c d1 x2 d2 x3 d3 d4 n1 n2 n3 n4 t _ j (by rintro rfl; rw [uf] at hj; cases hj) (by rintro rfl; have := (hW.1 hj).2; rw [uf] at this; cases this), ?_⟩
      unfold Wl
      rw [getD_set_other (i := 16) (j := 15) (by omega), getD_set_other (i := 16) (j := 17) (by omega), getD_set_same (by rw [hL, sizeA]; omega)]
      refine ⟨fun hz => ?_, fun _ => hBl, (fun h => by cases h), (fun _ h => by cases h), fun _ => hb2⟩
      have := (hW.1 hz).2
      rw [uf] at this; cases this
    · have ho1 := at_op (q := Op.assign (Operand.tmp 128)) (by kernel_rfl) ho
      have hx : ac.eval (.tmp 128) = t.v := hS.arg (p := 16) (d := 128) ho hall (by kernel_rfl) (by kernel_rfl)
      have hA := dep_listed (p := 16) (by kernel_rfl) ho hall
      have h0l := dep_listed (p := 0) (by kernel_rfl) ho hall
      refine pure_op (t := t) (V := (fun t => VA v c d1 x2 d2 x3 d3 d4 n1 n2 n3 n4 t)) (W := (fun t => Wl W0 v ys ([92, 117, (n1 : Int), (n2 : Int), (n3 : Int), (n4 : Int)]) 0 15 16 17 t)) (v := t.v) ?_ rfl (hW.fin (by omega) (by omega) h0l hA)
      unfold execOp
      simp only [ho1, hx]
      go_simp
  · intro t L ac w' hall hS hW
    have hfin := hS.final (by rw [hs]; kernel_rfl) hall
    have he : finAct opsA (VA v c d1 x2 d2 x3 d3 d4 n1 n2 n3 n4 t) a00 18 = ((((((((((((((((((a00.put (some 112) (v)).put (some 113) (.int .i32 c)).put (some 114) (.int .i32 d1)).put (some 115) (.int .u8 n1)).put (some 116) (.int .i32 c)).put (some 117) (.int .i32 x2)).put (some 118) (.int .i32 d2)).put (some 119) (.int .u8 n2)).put (some 120) (.int .i32 c)).put (some 121) (.int .i32 x3)).put (some 122) (.int .i32 d3)).put (some 123) (.int .u8 n3)).put (some 124) (.int .i32 c)).put (some 125) (.int .i32 d4)).put (some 126) (.int .u8 n4)).put (some 127) (.slice (some ⟨t.g, 0, none⟩) 6 6)).put (some 128) (t.v)).put (some 10) (t.v)) := by kernel_rfl
    rw [sizeA, he] at hfin
    rw [hfin]
    exact hQ t w' (hW.2.2.2.2 (hall 16 (by rw [sizeA]; omega)))
noncomputable def opsB : Array Oper := (Try.f13.body.bind (regOps 45)).getD #[]
theorem sizeB : opsB.size = 32 := by kernel_rfl
noncomputable def VB (v : Value) (lo hi2 d1 x2 d2 x3 d3 d4 n1 n2 n3 n4 d1' x2' d2' x3' d3' d4' n1' n2' n3' n4' : Nat) (t : Tg) (i : Nat) : Value := if i = 29 then .slice (some ⟨t.g, 0, none⟩) 12 12 else if i = 30 then t.v else if i = 31 then t.v else [v, .int .i32 lo, .int .i32 d1, .int .u8 n1, .int .i32 lo, .int .i32 x2, .int .i32 d2, .int .u8 n2, .int .i32 lo, .int .i32 x3, .int .i32 d3, .int .u8 n3, .int .i32 lo, .int .i32 d4, .int .u8 n4, .int .i32 hi2, .int .i32 d1', .int .u8 n1', .int .i32 hi2, .int .i32 x2', .int .i32 d2', .int .u8 n2', .int .i32 hi2, .int .i32 x3', .int .i32 d3', .int .u8 n3', .int .i32 hi2, .int .i32 d4', .int .u8 n4', undef, undef, undef].getD i undef
theorem VB_g (v : Value) (lo hi2 d1 x2 d2 x3 d3 d4 n1 n2 n3 n4 d1' x2' d2' x3' d3' d4' n1' n2' n3' n4' : Nat) (t : Tg) (g' : Nat) (j : Nat) (h : j ≠ 29) : VB v lo hi2 d1 x2 d2 x3 d3 d4 n1 n2 n3 n4 d1' x2' d2' x3' d3' d4' n1' n2' n3' n4' ⟨g', t.v⟩ j = VB v lo hi2 d1 x2 d2 x3 d3 d4 n1 n2 n3 n4 d1' x2' d2' x3' d3' d4' n1' n2' n3' n4' t j := by
  unfold VB
  rw [if_neg h, if_neg h]
theorem VB_v (v : Value) (lo hi2 d1 x2 d2 x3 d3 d4 n1 n2 n3 n4 d1' x2' d2' x3' d3' d4' n1' n2' n3' n4' : Nat) (t : Tg) (v' : Value) (j : Nat) (h : j ≠ 30) (h2 : j ≠ 31) : VB v lo hi2 d1 x2 d2 x3 d3 d4 n1 n2 n3 n4 d1' x2' d2' x3' d3' d4' n1' n2' n3' n4' ⟨t.g, v'⟩ j = VB v lo hi2 d1 x2 d2 x3 d3 d4 n1 n2 n3 n4 d1' x2' d2' x3' d3' d4' n1' n2' n3' n4' t j := by
  unfold VB
  rw [if_neg h, if_neg h2, if_neg h, if_neg h2]
set_option maxHeartbeats 4000000 in
theorem regB {id : Nat} {a00 : Act} {Q : Exit → Act → World → Prop} (W0 w1 : World) (v : Value) (lo hi2 d1 x2 d2 x3 d3 d4 n1 n2 n3 n4 d1' x2' d2' x3' d3' d4' n1' n2' n3' n4' : Nat) (ys : List Int) (hh : Hx lo d1 x2 d2 x3 d3 d4 n1 n2 n3 n4) (hh' : Hx hi2 d1' x2' d2' x3' d3' d4' n1' n2' n3' n4') (hs : a00.tmps.size = 231) (h10 : a00.eval (.tmp 10) = v) (h16 : a00.eval (.tmp 16) = .int .i32 lo) (h17 : a00.eval (.tmp 17) = .int .i32 hi2) (hlen : ys.length + ([92, 117, (n1 : Int), (n2 : Int), (n3 : Int), (n4 : Int), 92, 117, (n1' : Int), (n2' : Int), (n3' : Int), (n4' : Int)] : List Int).length ≤ 20000000)
    (hOb : Ob W0 w1 v ys) (hQ : ∀ (t : Tg) (w' : World), Ob W0 w' t.v (ys ++ [92, 117, (n1 : Int), (n2 : Int), (n3 : Int), (n4 : Int), 92, 117, (n1' : Int), (n2' : Int), (n3' : Int), (n4' : Int)]) → Q .normal ((((((((((((((((((((((((((((((((a00.put (some 138) (v)).put (some 139) (.int .i32 lo)).put (some 140) (.int .i32 d1)).put (some 141) (.int .u8 n1)).put (some 142) (.int .i32 lo)).put (some 143) (.int .i32 x2)).put (some 144) (.int .i32 d2)).put (some 145) (.int .u8 n2)).put (some 146) (.int .i32 lo)).put (some 147) (.int .i32 x3)).put (some 148) (.int .i32 d3)).put (some 149) (.int .u8 n3)).put (some 150) (.int .i32 lo)).put (some 151) (.int .i32 d4)).put (some 152) (.int .u8 n4)).put (some 153) (.int .i32 hi2)).put (some 154) (.int .i32 d1')).put (some 155) (.int .u8 n1')).put (some 156) (.int .i32 hi2)).put (some 157) (.int .i32 x2')).put (some 158) (.int .i32 d2')).put (some 159) (.int .u8 n2')).put (some 160) (.int .i32 hi2)).put (some 161) (.int .i32 x3')).put (some 162) (.int .i32 d3')).put (some 163) (.int .u8 n3')).put (some 164) (.int .i32 hi2)).put (some 165) (.int .i32 d4')).put (some 166) (.int .u8 n4')).put (some 167) (.slice (some ⟨t.g, 0, none⟩) 12 12)).put (some 168) (t.v)).put (some 10) (t.v)) w') :
    (Code.region id opsB true).wp Try.prog Q a00 w1 := by
  obtain ⟨q1, q2, q3, a2, a3, a4, b1, b2, b3, b4, l1, l2, l3, l4, m2, m3, k1, k2, k3, k4, hu⟩ := hh
  have hd1 : (d1 : Int) < 16 := by omega
  have hd2 : (d2 : Int) < 16 := by omega
  have hd3 : (d3 : Int) < 16 := by omega
  have hd4 : (d4 : Int) < 16 := by omega
  clear hu
  obtain ⟨q1', q2', q3', a2', a3', a4', b1', b2', b3', b4', l1', l2', l3', l4', m2', m3', k1', k2', k3', k4', hu'⟩ := hh'
  have hd1' : (d1' : Int) < 16 := by omega
  have hd2' : (d2' : Int) < 16 := by omega
  have hd3' : (d3' : Int) < 16 := by omega
  have hd4' : (d4' : Int) < 16 := by omega
  clear hu'
  refine wp_region_sl (Θ := Tg) (by kernel_rfl) (fun t => VB v lo hi2 d1 x2 d2 x3 d3 d4 n1 n2 n3 n4 d1' x2' d2' x3' d3' d4' n1' n2' n3' n4' t) (fun t => Wl W0 v ys ([92, 117, (n1 : Int), (n2 : Int), (n3 : Int), (n4 : Int), 92, 117, (n1' : Int), (n2' : Int), (n3' : Int), (n4' : Int)]) 0 29 30 31 t) (by kernel_rfl) (by rw [hs]; kernel_rfl) ⟨0, undef⟩ ?_ ?_ ?_
  · have hf : ∀ j, (Array.replicate opsB.size false).getD j false = false := fun j => by
      rw [Array.getD_eq_getD_getElem?, Array.getElem?_replicate]
      split <;> rfl
    unfold Wl
    rw [hf, hf, hf]
    exact ⟨(fun h => by cases h), (fun h => by cases h), fun _ => hOb.drew, (fun h => by cases h), (fun h => by cases h)⟩
  · intro i o t L ac w' ho hL hu hall hS hW
    have uf := getD_false_of_unlisted hu
    have hi : i < 32 := by rw [← sizeB]; exact (Array.getElem?_eq_some_iff.1 ho).1
    have rcs : i = 0 ∨ i = 1 ∨ i = 2 ∨ i = 3 ∨ i = 4 ∨ i = 5 ∨ i = 6 ∨ i = 7 ∨ i = 8 ∨ i = 9 ∨ i = 10 ∨ i = 11 ∨ i = 12 ∨ i = 13 ∨ i = 14 ∨ i = 15 ∨ i = 16 ∨ i = 17 ∨ i = 18 ∨ i = 19 ∨ i = 20 ∨ i = 21 ∨ i = 22 ∨ i = 23 ∨ i = 24 ∨ i = 25 ∨ i = 26 ∨ i = 27 ∨ i = 28 ∨ i = 29 ∨ i = 30 ∨ i = 31 := by omega
    rcases rcs with rfl | rfl | rfl | rfl | rfl | rfl | rfl | rfl | rfl | rfl | rfl | rfl | rfl | rfl | rfl | rfl | rfl | rfl | rfl | rfl | rfl | rfl | rfl | rfl | rfl | rfl | rfl | rfl | rfl | rfl | rfl | rfl
    · have ho1 := at_op (q := Op.move (Operand.tmp 10)) (by kernel_rfl) ho
      have hzl : L.getD 31 false = false := by
        cases e : L.getD 31 false with
        | false => rfl
        | true => have := (hW.1 e).1; rw [uf] at this; cases this
      have hx : ac.eval (.tmp 10) = v := (hS.outU (z := 31) (by rw [hs]; kernel_rfl) (by kernel_rfl) hzl).trans h10
      exact pure_op (t := t) (V := (fun t => VB v lo hi2 d1 x2 d2 x3 d3 d4 n1 n2 n3 n4 d1' x2' d2' x3' d3' d4' n1' n2' n3' n4' t)) (W := (fun t => Wl W0 v ys ([92, 117, (n1 : Int), (n2 : Int), (n3 : Int), (n4 : Int), 92, 117, (n1' : Int), (n2' : Int), (n3' : Int), (n4' : Int)]) 0 29 30 31 t)) (v := v) (k_move _ ho1 hx) rfl (hW.next (i := 0) (by omega) (by omega) (by omega))
    · have ho1 := at_op (q := Op.move (Operand.tmp 16)) (by kernel_rfl) ho
      have hx : ac.eval (.tmp 16) = .int .i32 lo := (hS.out (by kernel_rfl)).trans h16
      exact pure_op (t := t) (V := (fun t => VB v lo hi2 d1 x2 d2 x3 d3 d4 n1 n2 n3 n4 d1' x2' d2' x3' d3' d4' n1' n2' n3' n4' t)) (W := (fun t => Wl W0 v ys ([92, 117, (n1 : Int), (n2 : Int), (n3 : Int), (n4 : Int), 92, 117, (n1' : Int), (n2' : Int), (n3' : Int), (n4' : Int)]) 0 29 30 31 t)) (v := .int .i32 lo) (k_move _ ho1 hx) rfl (hW.next (i := 1) (by omega) (by omega) (by omega))
    · have ho1 := at_op (q := Op.binOp BinOp.shr 21 (Operand.tmp 139) (Operand.const (Value.int IntKind.u64 12)) 35) (by kernel_rfl) ho
      have hx0 : ac.eval (.tmp 139) = .int .i32 lo := hS.arg (p := 1) (d := 139) ho hall (by kernel_rfl) (by kernel_rfl)
      refine pure_op (t := t) (V := (fun t => VB v lo hi2 d1 x2 d2 x3 d3 d4 n1 n2 n3 n4 d1' x2' d2' x3' d3' d4' n1' n2' n3' n4' t)) (W := (fun t => Wl W0 v ys ([92, 117, (n1 : Int), (n2 : Int), (n3 : Int), (n4 : Int), 92, 117, (n1' : Int), (n2' : Int), (n3' : Int), (n4' : Int)]) 0 29 30 31 t)) (v := .int .i32 d1) ?_ rfl (hW.next (i := 2) (by omega) (by omega) (by omega))
      unfold execOp
      simp only [ho1, hx0]
      go_simp
    · have ho1 := at_op (q := Op.index 9 (Operand.const (Value.string { data := #[48, 49, 50, 51, 52, 53, 54, 55, 56, 57, 65, 66, 67, 68, 69, 70] })) (Operand.tmp 140)) (by kernel_rfl) ho
      have hx0 : ac.eval (.tmp 140) = .int .i32 d1 := hS.arg (p := 2) (d := 140) ho hall (by kernel_rfl) (by kernel_rfl)
      refine pure_op (t := t) (V := (fun t => VB v lo hi2 d1 x2 d2 x3 d3 d4 n1 n2 n3 n4 d1' x2' d2' x3' d3' d4' n1' n2' n3' n4' t)) (W := (fun t => Wl W0 v ys ([92, 117, (n1 : Int), (n2 : Int), (n3 : Int), (n4 : Int), 92, 117, (n1' : Int), (n2' : Int), (n3' : Int), (n4' : Int)]) 0 29 30 31 t)) (v := .int .u8 n1) ?_ rfl (hW.next (i := 3) (by omega) (by omega) (by omega))
      unfold execOp
      simp only [ho1, hx0]
      go_simp
    · have ho1 := at_op (q := Op.move (Operand.tmp 16)) (by kernel_rfl) ho
      have hx : ac.eval (.tmp 16) = .int .i32 lo := (hS.out (by kernel_rfl)).trans h16
      exact pure_op (t := t) (V := (fun t => VB v lo hi2 d1 x2 d2 x3 d3 d4 n1 n2 n3 n4 d1' x2' d2' x3' d3' d4' n1' n2' n3' n4' t)) (W := (fun t => Wl W0 v ys ([92, 117, (n1 : Int), (n2 : Int), (n3 : Int), (n4 : Int), 92, 117, (n1' : Int), (n2' : Int), (n3' : Int), (n4' : Int)]) 0 29 30 31 t)) (v := .int .i32 lo) (k_move _ ho1 hx) rfl (hW.next (i := 4) (by omega) (by omega) (by omega))
    · have ho1 := at_op (q := Op.binOp BinOp.shr 21 (Operand.tmp 142) (Operand.const (Value.int IntKind.u64 8)) 35) (by kernel_rfl) ho
      have hx0 : ac.eval (.tmp 142) = .int .i32 lo := hS.arg (p := 4) (d := 142) ho hall (by kernel_rfl) (by kernel_rfl)
      refine pure_op (t := t) (V := (fun t => VB v lo hi2 d1 x2 d2 x3 d3 d4 n1 n2 n3 n4 d1' x2' d2' x3' d3' d4' n1' n2' n3' n4' t)) (W := (fun t => Wl W0 v ys ([92, 117, (n1 : Int), (n2 : Int), (n3 : Int), (n4 : Int), 92, 117, (n1' : Int), (n2' : Int), (n3' : Int), (n4' : Int)]) 0 29 30 31 t)) (v := .int .i32 x2) ?_ rfl (hW.next (i := 5) (by omega) (by omega) (by omega))
      unfold execOp
      simp only [ho1, hx0]
      go_simp
    · have ho1 := at_op (q := Op.binOp BinOp.and 21 (Operand.tmp 143) (Operand.const (Value.int IntKind.i32 15)) 21) (by kernel_rfl) ho
      have hx0 : ac.eval (.tmp 143) = .int .i32 x2 := hS.arg (p := 5) (d := 143) ho hall (by kernel_rfl) (by kernel_rfl)
      refine pure_op (t := t) (V := (fun t => VB v lo hi2 d1 x2 d2 x3 d3 d4 n1 n2 n3 n4 d1' x2' d2' x3' d3' d4' n1' n2' n3' n4' t)) (W := (fun t => Wl W0 v ys ([92, 117, (n1 : Int), (n2 : Int), (n3 : Int), (n4 : Int), 92, 117, (n1' : Int), (n2' : Int), (n3' : Int), (n4' : Int)]) 0 29 30 31 t)) (v := .int .i32 d2) ?_ rfl (hW.next (i := 6) (by omega) (by omega) (by omega))
      unfold execOp
      simp only [ho1, hx0]
      go_simp
    · have ho1 := at_op (q := Op.index 9 (Operand.const (Value.string { data := #[48, 49, 50, 51, 52, 53, 54, 55, 56, 57, 65, 66, 67, 68, 69, 70] })) (Operand.tmp 144)) (by kernel_rfl) ho
      have hx0 : ac.eval (.tmp 144) = .int .i32 d2 := hS.arg (p := 6) (d := 144) ho hall (by kernel_rfl) (by kernel_rfl)
      refine pure_op (t := t) (V := (fun t => VB v lo hi2 d1 x2 d2 x3 d3 d4 n1 n2 n3 n4 d1' x2' d2' x3' d3' d4' n1' n2' n3' n4' t)) (W := (fun t => Wl W0 v ys ([92, 117, (n1 : Int), (n2 : Int), (n3 : Int), (n4 : Int), 92, 117, (n1' : Int), (n2' : Int), (n3' : Int), (n4' : Int)]) 0 29 30 31 t)) (v := .int .u8 n2) ?_ rfl (hW.next (i := 7) (by omega) (by omega) (by omega))
      unfold execOp
      simp only [ho1, hx0]
      go_simp
    · have ho1 := at_op (q := Op.move (Operand.tmp 16)) (by kernel_rfl) ho
      have hx : ac.eval (.tmp 16) = .int .i32 lo := (hS.out (by kernel_rfl)).trans h16
      exact pure_op (t := t) (V := (fun t => VB v lo hi2 d1 x2 d2 x3 d3 d4 n1 n2 n3 n4 d1' x2' d2' x3' d3' d4' n1' n2' n3' n4' t)) (W := (fun t => Wl W0 v ys ([92, 117, (n1 : Int), (n2 : Int), (n3 : Int), (n4 : Int), 92, 117, (n1' : Int), (n2' : Int), (n3' : Int), (n4' : Int)]) 0 29 30 31 t)) (v := .int .i32 lo) (k_move _ ho1 hx) rfl (hW.next (i := 8) (by omega) (by omega) (by omega))
    · have ho1 := at_op (q := Op.binOp BinOp.shr 21 (Operand.tmp 146) (Operand.const (Value.int IntKind.u64 4)) 35) (by kernel_rfl) ho
      have hx0 : ac.eval (.tmp 146) = .int .i32 lo := hS.arg (p := 8) (d := 146) ho hall (by kernel_rfl) (by kernel_rfl)
      refine pure_op (t := t) (V := (fun t => VB v lo hi2 d1 x2 d2 x3 d3 d4 n1 n2 n3 n4 d1' x2' d2' x3' d3' d4' n1' n2' n3' n4' t)) (W := (fun t => Wl W0 v ys ([92, 117, (n1 : Int), (n2 : Int), (n3 : Int), (n4 : Int), 92, 117, (n1' : Int), (n2' : Int), (n3' : Int), (n4' : Int)]) 0 29 30 31 t)) (v := .int .i32 x3) ?_ rfl (hW.next (i := 9) (by omega) (by omega) (by omega))
      unfold execOp
      simp only [ho1, hx0]
      go_simp
    · have ho1 := at_op (q := Op.binOp BinOp.and 21 (Operand.tmp 147) (Operand.const (Value.int IntKind.i32 15)) 21) (by kernel_rfl) ho
      have hx0 : ac.eval (.tmp 147) = .int .i32 x3 := hS.arg (p := 9) (d := 147) ho hall (by kernel_rfl) (by kernel_rfl)
      refine pure_op (t := t) (V := (fun t => VB v lo hi2 d1 x2 d2 x3 d3 d4 n1 n2 n3 n4 d1' x2' d2' x3' d3' d4' n1' n2' n3' n4' t)) (W := (fun t => Wl W0 v ys ([92, 117, (n1 : Int), (n2 : Int), (n3 : Int), (n4 : Int), 92, 117, (n1' : Int), (n2' : Int), (n3' : Int), (n4' : Int)]) 0 29 30 31 t)) (v := .int .i32 d3) ?_ rfl (hW.next (i := 10) (by omega) (by omega) (by omega))
      unfold execOp
      simp only [ho1, hx0]
      go_simp
    · have ho1 := at_op (q := Op.index 9 (Operand.const (Value.string { data := #[48, 49, 50, 51, 52, 53, 54, 55, 56, 57, 65, 66, 67, 68, 69, 70] })) (Operand.tmp 148)) (by kernel_rfl) ho
      have hx0 : ac.eval (.tmp 148) = .int .i32 d3 := hS.arg (p := 10) (d := 148) ho hall (by kernel_rfl) (by kernel_rfl)
      refine pure_op (t := t) (V := (fun t => VB v lo hi2 d1 x2 d2 x3 d3 d4 n1 n2 n3 n4 d1' x2' d2' x3' d3' d4' n1' n2' n3' n4' t)) (W := (fun t => Wl W0 v ys ([92, 117, (n1 : Int), (n2 : Int), (n3 : Int), (n4 : Int), 92, 117, (n1' : Int), (n2' : Int), (n3' : Int), (n4' : Int)]) 0 29 30 31 t)) (v := .int .u8 n3) ?_ rfl (hW.next (i := 11) (by omega) (by omega) (by omega))
      unfold execOp
      simp only [ho1, hx0]
      go_simp
    · have ho1 := at_op (q := Op.move (Operand.tmp 16)) (by kernel_rfl) ho
      have hx : ac.eval (.tmp 16) = .int .i32 lo := (hS.out (by kernel_rfl)).trans h16
      exact pure_op (t := t) (V := (fun t => VB v lo hi2 d1 x2 d2 x3 d3 d4 n1 n2 n3 n4 d1' x2' d2' x3' d3' d4' n1' n2' n3' n4' t)) (W := (fun t => Wl W0 v ys ([92, 117, (n1 : Int), (n2 : Int), (n3 : Int), (n4 : Int), 92, 117, (n1' : Int), (n2' : Int), (n3' : Int), (n4' : Int)]) 0 29 30 31 t)) (v := .int .i32 lo) (k_move _ ho1 hx) rfl (hW.next (i := 12) (by omega) (by omega) (by omega))
    · have ho1 := at_op (q := Op.binOp BinOp.and 21 (Operand.tmp 150) (Operand.const (Value.int IntKind.i32 15)) 21) (by kernel_rfl) ho
      have hx0 : ac.eval (.tmp 150) = .int .i32 lo := hS.arg (p := 12) (d := 150) ho hall (by kernel_rfl) (by kernel_rfl)
      refine pure_op (t := t) (V := (fun t => VB v lo hi2 d1 x2 d2 x3 d3 d4 n1 n2 n3 n4 d1' x2' d2' x3' d3' d4' n1' n2' n3' n4' t)) (W := (fun t => Wl W0 v ys ([92, 117, (n1 : Int), (n2 : Int), (n3 : Int), (n4 : Int), 92, 117, (n1' : Int), (n2' : Int), (n3' : Int), (n4' : Int)]) 0 29 30 31 t)) (v := .int .i32 d4) ?_ rfl (hW.next (i := 13) (by omega) (by omega) (by omega))
      unfold execOp
      simp only [ho1, hx0]
      go_simp
    · have ho1 := at_op (q := Op.index 9 (Operand.const (Value.string { data := #[48, 49, 50, 51, 52, 53, 54, 55, 56, 57, 65, 66, 67, 68, 69, 70] })) (Operand.tmp 151)) (by kernel_rfl) ho
      have hx0 : ac.eval (.tmp 151) = .int .i32 d4 := hS.arg (p := 13) (d := 151) ho hall (by kernel_rfl) (by kernel_rfl)
      refine pure_op (t := t) (V := (fun t => VB v lo hi2 d1 x2 d2 x3 d3 d4 n1 n2 n3 n4 d1' x2' d2' x3' d3' d4' n1' n2' n3' n4' t)) (W := (fun t => Wl W0 v ys ([92, 117, (n1 : Int), (n2 : Int), (n3 : Int), (n4 : Int), 92, 117, (n1' : Int), (n2' : Int), (n3' : Int), (n4' : Int)]) 0 29 30 31 t)) (v := .int .u8 n4) ?_ rfl (hW.next (i := 14) (by omega) (by omega) (by omega))
      unfold execOp
      simp only [ho1, hx0]
      go_simp
    · have ho1 := at_op (q := Op.move (Operand.tmp 17)) (by kernel_rfl) ho
      have hx : ac.eval (.tmp 17) = .int .i32 hi2 := (hS.out (by kernel_rfl)).trans h17
      exact pure_op (t := t) (V := (fun t => VB v lo hi2 d1 x2 d2 x3 d3 d4 n1 n2 n3 n4 d1' x2' d2' x3' d3' d4' n1' n2' n3' n4' t)) (W := (fun t => Wl W0 v ys ([92, 117, (n1 : Int), (n2 : Int), (n3 : Int), (n4 : Int), 92, 117, (n1' : Int), (n2' : Int), (n3' : Int), (n4' : Int)]) 0 29 30 31 t)) (v := .int .i32 hi2) (k_move _ ho1 hx) rfl (hW.next (i := 15) (by omega) (by omega) (by omega))
    · have ho1 := at_op (q := Op.binOp BinOp.shr 21 (Operand.tmp 153) (Operand.const (Value.int IntKind.u64 12)) 35) (by kernel_rfl) ho
      have hx0 : ac.eval (.tmp 153) = .int .i32 hi2 := hS.arg (p := 15) (d := 153) ho hall (by kernel_rfl) (by kernel_rfl)
      refine pure_op (t := t) (V := (fun t => VB v lo hi2 d1 x2 d2 x3 d3 d4 n1 n2 n3 n4 d1' x2' d2' x3' d3' d4' n1' n2' n3' n4' t)) (W := (fun t => Wl W0 v ys ([92, 117, (n1 : Int), (n2 : Int), (n3 : Int), (n4 : Int), 92, 117, (n1' : Int), (n2' : Int), (n3' : Int), (n4' : Int)]) 0 29 30 31 t)) (v := .int .i32 d1') ?_ rfl (hW.next (i := 16) (by omega) (by omega) (by omega))
      unfold execOp
      simp only [ho1, hx0]
      go_simp
    · have ho1 := at_op (q := Op.index 9 (Operand.const (Value.string { data := #[48, 49, 50, 51, 52, 53, 54, 55, 56, 57, 65, 66, 67, 68, 69, 70] })) (Operand.tmp 154)) (by kernel_rfl) ho
      have hx0 : ac.eval (.tmp 154) = .int .i32 d1' := hS.arg (p := 16) (d := 154) ho hall (by kernel_rfl) (by kernel_rfl)
      refine pure_op (t := t) (V := (fun t => VB v lo hi2 d1 x2 d2 x3 d3 d4 n1 n2 n3 n4 d1' x2' d2' x3' d3' d4' n1' n2' n3' n4' t)) (W := (fun t => Wl W0 v ys ([92, 117, (n1 : Int), (n2 : Int), (n3 : Int), (n4 : Int), 92, 117, (n1' : Int), (n2' : Int), (n3' : Int), (n4' : Int)]) 0 29 30 31 t)) (v := .int .u8 n1') ?_ rfl (hW.next (i := 17) (by omega) (by omega) (by omega))
      unfold execOp
      simp only [ho1, hx0]
      go_simp
    · have ho1 := at_op (q := Op.move (Operand.tmp 17)) (by kernel_rfl) ho
      have hx : ac.eval (.tmp 17) = .int .i32 hi2 := (hS.out (by kernel_rfl)).trans h17
      exact pure_op (t := t) (V := (fun t => VB v lo hi2 d1 x2 d2 x3 d3 d4 n1 n2 n3 n4 d1' x2' d2' x3' d3' d4' n1' n2' n3' n4' t)) (W := (fun t => Wl W0 v ys ([92, 117, (n1 : Int), (n2 : Int), (n3 : Int), (n4 : Int), 92, 117, (n1' : Int), (n2' : Int), (n3' : Int), (n4' : Int)]) 0 29 30 31 t)) (v := .int .i32 hi2) (k_move _ ho1 hx) rfl (hW.next (i := 18) (by omega) (by omega) (by omega))
    · have ho1 := at_op (q := Op.binOp BinOp.shr 21 (Operand.tmp 156) (Operand.const (Value.int IntKind.u64 8)) 35) (by kernel_rfl) ho
      have hx0 : ac.eval (.tmp 156) = .int .i32 hi2 := hS.arg (p := 18) (d := 156) ho hall (by kernel_rfl) (by kernel_rfl)
      refine pure_op (t := t) (V := (fun t => VB v lo hi2 d1 x2 d2 x3 d3 d4 n1 n2 n3 n4 d1' x2' d2' x3' d3' d4' n1' n2' n3' n4' t)) (W := (fun t => Wl W0 v ys ([92, 117, (n1 : Int), (n2 : Int), (n3 : Int), (n4 : Int), 92, 117, (n1' : Int), (n2' : Int), (n3' : Int), (n4' : Int)]) 0 29 30 31 t)) (v := .int .i32 x2') ?_ rfl (hW.next (i := 19) (by omega) (by omega) (by omega))
      unfold execOp
      simp only [ho1, hx0]
      go_simp
    · have ho1 := at_op (q := Op.binOp BinOp.and 21 (Operand.tmp 157) (Operand.const (Value.int IntKind.i32 15)) 21) (by kernel_rfl) ho
      have hx0 : ac.eval (.tmp 157) = .int .i32 x2' := hS.arg (p := 19) (d := 157) ho hall (by kernel_rfl) (by kernel_rfl)
      refine pure_op (t := t) (V := (fun t => VB v lo hi2 d1 x2 d2 x3 d3 d4 n1 n2 n3 n4 d1' x2' d2' x3' d3' d4' n1' n2' n3' n4' t)) (W := (fun t => Wl W0 v ys ([92, 117, (n1 : Int), (n2 : Int), (n3 : Int), (n4 : Int), 92, 117, (n1' : Int), (n2' : Int), (n3' : Int), (n4' : Int)]) 0 29 30 31 t)) (v := .int .i32 d2') ?_ rfl (hW.next (i := 20) (by omega) (by omega) (by omega))
      unfold execOp
      simp only [ho1, hx0]
      go_simp
    · have ho1 := at_op (q := Op.index 9 (Operand.const (Value.string { data := #[48, 49, 50, 51, 52, 53, 54, 55, 56, 57, 65, 66, 67, 68, 69, 70] })) (Operand.tmp 158)) (by kernel_rfl) ho
      have hx0 : ac.eval (.tmp 158) = .int .i32 d2' := hS.arg (p := 20) (d := 158) ho hall (by kernel_rfl) (by kernel_rfl)
      refine pure_op (t := t) (V := (fun t => VB v lo hi2 d1 x2 d2 x3 d3 d4 n1 n2 n3 n4 d1' x2' d2' x3' d3' d4' n1' n2' n3' n4' t)) (W := (fun t => Wl W0 v ys ([92, 117, (n1 : Int), (n2 : Int), (n3 : Int), (n4 : Int), 92, 117, (n1' : Int), (n2' : Int), (n3' : Int), (n4' : Int)]) 0 29 30 31 t)) (v := .int .u8 n2') ?_ rfl (hW.next (i := 21) (by omega) (by omega) (by omega))
      unfold execOp
      simp only [ho1, hx0]
      go_simp
    · have ho1 := at_op (q := Op.move (Operand.tmp 17)) (by kernel_rfl) ho
      have hx : ac.eval (.tmp 17) = .int .i32 hi2 := (hS.out (by kernel_rfl)).trans h17
      exact pure_op (t := t) (V := (fun t => VB v lo hi2 d1 x2 d2 x3 d3 d4 n1 n2 n3 n4 d1' x2' d2' x3' d3' d4' n1' n2' n3' n4' t)) (W := (fun t => Wl W0 v ys ([92, 117, (n1 : Int), (n2 : Int), (n3 : Int), (n4 : Int), 92, 117, (n1' : Int), (n2' : Int), (n3' : Int), (n4' : Int)]) 0 29 30 31 t)) (v := .int .i32 hi2) (k_move _ ho1 hx) rfl (hW.next (i := 22) (by omega) (by omega) (by omega))
    · have ho1 := at_op (q := Op.binOp BinOp.shr 21 (Operand.tmp 160) (Operand.const (Value.int IntKind.u64 4)) 35) (by kernel_rfl) ho
      have hx0 : ac.eval (.tmp 160) = .int .i32 hi2 := hS.arg (p := 22) (d := 160) ho hall (by kernel_rfl) (by kernel_rfl)
      refine pure_op (t := t) (V := (fun t => VB v lo hi2 d1 x2 d2 x3 d3 d4 n1 n2 n3 n4 d1' x2' d2' x3' d3' d4' n1' n2' n3' n4' t)) (W := (fun t => Wl W0 v ys ([92, 117, (n1 : Int), (n2 : Int), (n3 : Int), (n4 : Int), 92, 117, (n1' : Int), (n2' : Int), (n3' : Int), (n4' : Int)]) 0 29 30 31 t)) (v := .int .i32 x3') ?_ rfl (hW.next (i := 23) (by omega) (by omega) (by omega))
      unfold execOp
      simp only [ho1, hx0]
      go_simp
    · have ho1 := at_op (q := Op.binOp BinOp.and 21 (Operand.tmp 161) (Operand.const (Value.int IntKind.i32 15)) 21) (by kernel_rfl) ho
      have hx0 : ac.eval (.tmp 161) = .int .i32 x3' := hS.arg (p := 23) (d := 161) ho hall (by kernel_rfl) (by kernel_rfl)
      refine pure_op (t := t) (V := (fun t => VB v lo hi2 d1 x2 d2 x3 d3 d4 n1 n2 n3 n4 d1' x2' d2' x3' d3' d4' n1' n2' n3' n4' t)) (W := (fun t => Wl W0 v ys ([92, 117, (n1 : Int), (n2 : Int), (n3 : Int), (n4 : Int), 92, 117, (n1' : Int), (n2' : Int), (n3' : Int), (n4' : Int)]) 0 29 30 31 t)) (v := .int .i32 d3') ?_ rfl (hW.next (i := 24) (by omega) (by omega) (by omega))
      unfold execOp
      simp only [ho1, hx0]
      go_simp
    · have ho1 := at_op (q := Op.index 9 (Operand.const (Value.string { data := #[48, 49, 50, 51, 52, 53, 54, 55, 56, 57, 65, 66, 67, 68, 69, 70] })) (Operand.tmp 162)) (by kernel_rfl) ho
      have hx0 : ac.eval (.tmp 162) = .int .i32 d3' := hS.arg (p := 24) (d := 162) ho hall (by kernel_rfl) (by kernel_rfl)
      refine pure_op (t := t) (V := (fun t => VB v lo hi2 d1 x2 d2 x3 d3 d4 n1 n2 n3 n4 d1' x2' d2' x3' d3' d4' n1' n2' n3' n4' t)) (W := (fun t => Wl W0 v ys ([92, 117, (n1 : Int), (n2 : Int), (n3 : Int), (n4 : Int), 92, 117, (n1' : Int), (n2' : Int), (n3' : Int), (n4' : Int)]) 0 29 30 31 t)) (v := .int .u8 n3') ?_ rfl (hW.next (i := 25) (by omega) (by omega) (by omega))
      unfold execOp
      simp only [ho1, hx0]
      go_simp
    · have ho1 := at_op (q := Op.move (Operand.tmp 17)) (by kernel_rfl) ho
      have hx : ac.eval (.tmp 17) = .int .i32 hi2 := (hS.out (by kernel_rfl)).trans h17
      exact pure_op (t := t) (V := (fun t => VB v lo hi2 d1 x2 d2 x3 d3 d4 n1 n2 n3 n4 d1' x2' d2' x3' d3' d4' n1' n2' n3' n4' t)) (W := (fun t => Wl W0 v ys ([92, 117, (n1 : Int), (n2 : Int), (n3 : Int), (n4 : Int), 92, 117, (n1' : Int), (n2' : Int), (n3' : Int), (n4' : Int)]) 0 29 30 31 t)) (v := .int .i32 hi2) (k_move _ ho1 hx) rfl (hW.next (i := 26) (by omega) (by omega) (by omega))
    · have ho1 := at_op (q := Op.binOp BinOp.and 21 (Operand.tmp 164) (Operand.const (Value.int IntKind.i32 15)) 21) (by kernel_rfl) ho
      have hx0 : ac.eval (.tmp 164) = .int .i32 hi2 := hS.arg (p := 26) (d := 164) ho hall (by kernel_rfl) (by kernel_rfl)
      refine pure_op (t := t) (V := (fun t => VB v lo hi2 d1 x2 d2 x3 d3 d4 n1 n2 n3 n4 d1' x2' d2' x3' d3' d4' n1' n2' n3' n4' t)) (W := (fun t => Wl W0 v ys ([92, 117, (n1 : Int), (n2 : Int), (n3 : Int), (n4 : Int), 92, 117, (n1' : Int), (n2' : Int), (n3' : Int), (n4' : Int)]) 0 29 30 31 t)) (v := .int .i32 d4') ?_ rfl (hW.next (i := 27) (by omega) (by omega) (by omega))
      unfold execOp
      simp only [ho1, hx0]
      go_simp
    · have ho1 := at_op (q := Op.index 9 (Operand.const (Value.string { data := #[48, 49, 50, 51, 52, 53, 54, 55, 56, 57, 65, 66, 67, 68, 69, 70] })) (Operand.tmp 165)) (by kernel_rfl) ho
      have hx0 : ac.eval (.tmp 165) = .int .i32 d4' := hS.arg (p := 27) (d := 165) ho hall (by kernel_rfl) (by kernel_rfl)
      refine pure_op (t := t) (V := (fun t => VB v lo hi2 d1 x2 d2 x3 d3 d4 n1 n2 n3 n4 d1' x2' d2' x3' d3' d4' n1' n2' n3' n4' t)) (W := (fun t => Wl W0 v ys ([92, 117, (n1 : Int), (n2 : Int), (n3 : Int), (n4 : Int), 92, 117, (n1' : Int), (n2' : Int), (n3' : Int), (n4' : Int)]) 0 29 30 31 t)) (v := .int .u8 n4') ?_ rfl (hW.next (i := 28) (by omega) (by omega) (by omega))
      unfold execOp
      simp only [ho1, hx0]
      go_simp
    · have ho1 := at_op (q := Op.buildSlice 24 12 #[(0, Operand.const (Value.int IntKind.u8 92)), (1, Operand.const (Value.int IntKind.u8 117)), (2, Operand.tmp 141), (3, Operand.tmp 145), (4, Operand.tmp 149), (5, Operand.tmp 152), (6, Operand.const (Value.int IntKind.u8 92)), (7, Operand.const (Value.int IntKind.u8 117)), (8, Operand.tmp 155), (9, Operand.tmp 159), (10, Operand.tmp 163), (11, Operand.tmp 166)]) (by kernel_rfl) ho
      have hx0 : ac.eval (.tmp 141) = .int .u8 n1 := hS.arg (p := 3) (d := 141) ho hall (by kernel_rfl) (by kernel_rfl)
      have hx1 : ac.eval (.tmp 145) = .int .u8 n2 := hS.arg (p := 7) (d := 145) ho hall (by kernel_rfl) (by kernel_rfl)
      have hx2 : ac.eval (.tmp 149) = .int .u8 n3 := hS.arg (p := 11) (d := 149) ho hall (by kernel_rfl) (by kernel_rfl)
      have hx3 : ac.eval (.tmp 152) = .int .u8 n4 := hS.arg (p := 14) (d := 152) ho hall (by kernel_rfl) (by kernel_rfl)
      have hx4 : ac.eval (.tmp 155) = .int .u8 n1' := hS.arg (p := 17) (d := 155) ho hall (by kernel_rfl) (by kernel_rfl)
      have hx5 : ac.eval (.tmp 159) = .int .u8 n2' := hS.arg (p := 21) (d := 159) ho hall (by kernel_rfl) (by kernel_rfl)
      have hx6 : ac.eval (.tmp 163) = .int .u8 n3' := hS.arg (p := 25) (d := 163) ho hall (by kernel_rfl) (by kernel_rfl)
      have hx7 : ac.eval (.tmp 166) = .int .u8 n4' := hS.arg (p := 28) (d := 166) ho hall (by kernel_rfl) (by kernel_rfl)
      have hrun : (execOp ac.eval o).run Try.prog w' = .ok (.value (.slice (some ⟨w'.heap.size, 0, none⟩) 12 12)) (w'.alloc (.cells (vs ([92, 117, (n1 : Int), (n2 : Int), (n3 : Int), (n4 : Int), 92, 117, (n1' : Int), (n2' : Int), (n3' : Int), (n4' : Int)])).toArray 5)) := by
        unfold execOp
        simp only [ho1, List.map_toArray, List.map_cons, List.map_nil, hx0, hx1, hx2, hx3, hx4, hx5, hx6, hx7]
        go_simp
        rfl
      unfold Oper.wp
      rw [hrun, Oper.upon_value]
      exact ⟨⟨w'.heap.size, t.v⟩, rfl, fun j hj => VB_g v lo hi2 d1 x2 d2 x3 d3 d4 n1 n2 n3 n4 d1' x2' d2' x3' d3' d4' n1' n2' n3' n4' t _ j (by rintro rfl; rw [uf] at hj; cases hj), hW.build (by omega) (by omega) uf _ rfl⟩
    · have ho1 := at_op (q := Op.call { callee := Callee.builtin Builtin.append, args := #[Operand.tmp 138, Operand.tmp 167], argTypes := #[24, 24] }) (by kernel_rfl) ho
      have hx0 : ac.eval (.tmp 138) = v := hS.arg (p := 0) (d := 138) ho hall (by kernel_rfl) (by kernel_rfl)
      have hx1 : ac.eval (.tmp 167) = .slice (some ⟨t.g, 0, none⟩) 12 12 := hS.arg (p := 29) (d := 167) ho hall (by kernel_rfl) (by kernel_rfl)
      have hBl : L.getD 29 false = true := dep_listed (p := 29) (by kernel_rfl) ho hall
      refine app_op ho1 W0 v ys ([92, 117, (n1 : Int), (n2 : Int), (n3 : Int), (n4 : Int), 92, 117, (n1' : Int), (n2' : Int), (n3' : Int), (n4' : Int)]) t.g 12 _ rfl hx0 (hW.2.2.1 uf) hx1 (hW.2.2.2.1 hBl uf) hlen ?_
      intro v' w2 hb2
      refine ⟨⟨t.g, v'⟩, rfl, fun j hj => VB_v v lo hi2 d1 x2 d2 x3 d3 d4 n1 n2 n3 n4 d1' x2' d2' x3' d3' d4' n1' n2' n3' n4' t _ j (by rintro rfl; rw [uf] at hj; cases hj) (by rintro rfl; have := (hW.1 hj).2; rw [uf] at this; cases this), ?_⟩
      unfold Wl
      rw [getD_set_other (i := 30) (j := 29) (by omega), getD_set_other (i := 30) (j := 31) (by omega), getD_set_same (by rw [hL, sizeB]; omega)]
      refine ⟨fun hz => ?_, fun _ => hBl, (fun h => by cases h), (fun _ h => by cases h), fun _ => hb2⟩
      have := (hW.1 hz).2
      rw [uf] at this; cases this
    · have ho1 := at_op (q := Op.assign (Operand.tmp 168)) (by kernel_rfl) ho
      have hx : ac.eval (.tmp 168) = t.v := hS.arg (p := 30) (d := 168) ho hall (by kernel_rfl) (by kernel_rfl)
      have hA := dep_listed (p := 30) (by kernel_rfl) ho hall
      have h0l := dep_listed (p := 0) (by kernel_rfl) ho hall
      refine pure_op (t := t) (V := (fun t => VB v lo hi2 d1 x2 d2 x3 d3 d4 n1 n2 n3 n4 d1' x2' d2' x3' d3' d4' n1' n2' n3' n4' t)) (W := (fun t => Wl W0 v ys ([92, 117, (n1 : Int), (n2 : Int), (n3 : Int), (n4 : Int), 92, 117, (n1' : Int), (n2' : Int), (n3' : Int), (n4' : Int)]) 0 29 30 31 t)) (v := t.v) ?_ rfl (hW.fin (by omega) (by omega) h0l hA)
      unfold execOp
      simp only [ho1, hx]
      go_simp
  · intro t L ac w' hall hS hW
    have hfin := hS.final (by rw [hs]; kernel_rfl) hall
    have he : finAct opsB (VB v lo hi2 d1 x2 d2 x3 d3 d4 n1 n2 n3 n4 d1' x2' d2' x3' d3' d4' n1' n2' n3' n4' t) a00 32 = ((((((((((((((((((((((((((((((((a00.put (some 138) (v)).put (some 139) (.int .i32 lo)).put (some 140) (.int .i32 d1)).put (some 141) (.int .u8 n1)).put (some 142) (.int .i32 lo)).put (some 143) (.int .i32 x2)).put (some 144) (.int .i32 d2)).put (some 145) (.int .u8 n2)).put (some 146) (.int .i32 lo)).put (some 147) (.int .i32 x3)).put (some 148) (.int .i32 d3)).put (some 149) (.int .u8 n3)).put (some 150) (.int .i32 lo)).put (some 151) (.int .i32 d4)).put (some 152) (.int .u8 n4)).put (some 153) (.int .i32 hi2)).put (some 154) (.int .i32 d1')).put (some 155) (.int .u8 n1')).put (some 156) (.int .i32 hi2)).put (some 157) (.int .i32 x2')).put (some 158) (.int .i32 d2')).put (some 159) (.int .u8 n2')).put (some 160) (.int .i32 hi2)).put (some 161) (.int .i32 x3')).put (some 162) (.int .i32 d3')).put (some 163) (.int .u8 n3')).put (some 164) (.int .i32 hi2)).put (some 165) (.int .i32 d4')).put (some 166) (.int .u8 n4')).put (some 167) (.slice (some ⟨t.g, 0, none⟩) 12 12)).put (some 168) (t.v)).put (some 10) (t.v)) := by kernel_rfl
    rw [sizeB, he] at hfin
    rw [hfin]
    exact hQ t w' (hW.2.2.2.2 (hall 30 (by rw [sizeB]; omega)))
noncomputable def opsU : Array Oper := (Try.f20.body.bind (regOps 1)).getD #[]
theorem sizeU : opsU.size = 19 := by kernel_rfl
noncomputable def VU (v : Value) (c d1 x2 d2 x3 d3 d4 n1 n2 n3 n4 : Nat) (t : Tg) (i : Nat) : Value := if i = 16 then .slice (some ⟨t.g, 0, none⟩) 6 6 else if i = 17 then t.v else if i = 18 then t.v else [v, .int .i64 c, .int .i64 d1, .int .i64 d1, .int .u8 n1, .int .i64 c, .int .i64 x2, .int .i64 d2, .int .u8 n2, .int .i64 c, .int .i64 x3, .int .i64 d3, .int .u8 n3, .int .i64 c, .int .i64 d4, .int .u8 n4, undef, undef, undef].getD i undef
theorem VU_g (v : Value) (c d1 x2 d2 x3 d3 d4 n1 n2 n3 n4 : Nat) (t : Tg) (g' : Nat) (j : Nat) (h : j ≠ 16) : VU v c d1 x2 d2 x3 d3 d4 n1 n2 n3 n4 ⟨g', t.v⟩ j = VU v c d1 x2 d2 x3 d3 d4 n1 n2 n3 n4 t j := by
  unfold VU
  rw [if_neg h, if_neg h]
theorem VU_v (v : Value) (c d1 x2 d2 x3 d3 d4 n1 n2 n3 n4 : Nat) (t : Tg) (v' : Value) (j : Nat) (h : j ≠ 17) (h2 : j ≠ 18) : VU v c d1 x2 d2 x3 d3 d4 n1 n2 n3 n4 ⟨t.g, v'⟩ j = VU v c d1 x2 d2 x3 d3 d4 n1 n2 n3 n4 t j := by
  unfold VU
  rw [if_neg h, if_neg h2, if_neg h, if_neg h2]
set_option maxHeartbeats 4000000 in
theorem regU {id : Nat} {a00 : Act} {Q : Exit → Act → World → Prop} (W0 w1 : World) (v : Value) (c d1 x2 d2 x3 d3 d4 n1 n2 n3 n4 : Nat) (ys : List Int) (hh : Hx c d1 x2 d2 x3 d3 d4 n1 n2 n3 n4) (hs : a00.tmps.size = 23) (h0 : a00.eval (.tmp 0) = v) (h1 : a00.eval (.tmp 1) = .int .i64 c) (hlen : ys.length + ([92, 117, (n1 : Int), (n2 : Int), (n3 : Int), (n4 : Int)] : List Int).length ≤ 20000000)
    (hOb : Ob W0 w1 v ys) (hQ : ∀ (t : Tg) (w' : World), Ob W0 w' t.v (ys ++ [92, 117, (n1 : Int), (n2 : Int), (n3 : Int), (n4 : Int)]) → Q .normal (((((((((((((((((((a00.put (some 5) (v)).put (some 6) (.int .i64 c)).put (some 7) (.int .i64 d1)).put (some 8) (.int .i64 d1)).put (some 9) (.int .u8 n1)).put (some 10) (.int .i64 c)).put (some 11) (.int .i64 x2)).put (some 12) (.int .i64 d2)).put (some 13) (.int .u8 n2)).put (some 14) (.int .i64 c)).put (some 15) (.int .i64 x3)).put (some 16) (.int .i64 d3)).put (some 17) (.int .u8 n3)).put (some 18) (.int .i64 c)).put (some 19) (.int .i64 d4)).put (some 20) (.int .u8 n4)).put (some 21) (.slice (some ⟨t.g, 0, none⟩) 6 6)).put (some 22) (t.v)).put (some 4) (t.v)) w') :
    (Code.region id opsU true).wp Try.prog Q a00 w1 := by
  obtain ⟨q1, q2, q3, a2, a3, a4, b1, b2, b3, b4, l1, l2, l3, l4, m2, m3, k1, k2, k3, k4, hu⟩ := hh
  have hd1 : (d1 : Int) < 16 := by omega
  have hd2 : (d2 : Int) < 16 := by omega
  have hd3 : (d3 : Int) < 16 := by omega
  have hd4 : (d4 : Int) < 16 := by omega
  clear hu
  refine wp_region_sl (Θ := Tg) (by kernel_rfl) (fun t => VU v c d1 x2 d2 x3 d3 d4 n1 n2 n3 n4 t) (fun t => Wl W0 v ys ([92, 117, (n1 : Int), (n2 : Int), (n3 : Int), (n4 : Int)]) 0 16 17 18 t) (by kernel_rfl) (by rw [hs]; kernel_rfl) ⟨0, undef⟩ ?_ ?_ ?_
  · have hf : ∀ j, (Array.replicate opsU.size false).getD j false = false := fun j => by
      rw [Array.getD_eq_getD_getElem?, Array.getElem?_replicate]
      split <;> rfl
    unfold Wl
    rw [hf, hf, hf]
    exact ⟨(fun h => by cases h), (fun h => by cases h), fun _ => hOb.drew, (fun h => by cases h), (fun h => by cases h)⟩
  · intro i o t L ac w' ho hL hu hall hS hW
    have uf := getD_false_of_unlisted hu
    have hi : i < 19 := by rw [← sizeU]; exact (Array.getElem?_eq_some_iff.1 ho).1
    have rcs : i = 0 ∨ i = 1 ∨ i = 2 ∨ i = 3 ∨ i = 4 ∨ i = 5 ∨ i = 6 ∨ i = 7 ∨ i = 8 ∨ i = 9 ∨ i = 10 ∨ i = 11 ∨ i = 12 ∨ i = 13 ∨ i = 14 ∨ i = 15 ∨ i = 16 ∨ i = 17 ∨ i = 18 := by omega
    rcases rcs with rfl | rfl | rfl | rfl | rfl | rfl | rfl | rfl | rfl | rfl | rfl | rfl | rfl | rfl | rfl | rfl | rfl | rfl | rfl
    · have ho1 := at_op (q := Op.move (Operand.tmp 0)) (by kernel_rfl) ho
      have hx : ac.eval (.tmp 0) = v := (hS.out (by kernel_rfl)).trans h0
      exact pure_op (t := t) (V := (fun t => VU v c d1 x2 d2 x3 d3 d4 n1 n2 n3 n4 t)) (W := (fun t => Wl W0 v ys ([92, 117, (n1 : Int), (n2 : Int), (n3 : Int), (n4 : Int)]) 0 16 17 18 t)) (v := v) (k_move _ ho1 hx) rfl (hW.next (i := 0) (by omega) (by omega) (by omega))
    · have ho1 := at_op (q := Op.move (Operand.tmp 1)) (by kernel_rfl) ho
      have hx : ac.eval (.tmp 1) = .int .i64 c := (hS.out (by kernel_rfl)).trans h1
      exact pure_op (t := t) (V := (fun t => VU v c d1 x2 d2 x3 d3 d4 n1 n2 n3 n4 t)) (W := (fun t => Wl W0 v ys ([92, 117, (n1 : Int), (n2 : Int), (n3 : Int), (n4 : Int)]) 0 16 17 18 t)) (v := .int .i64 c) (k_move _ ho1 hx) rfl (hW.next (i := 1) (by omega) (by omega) (by omega))
    · have ho1 := at_op (q := Op.binOp BinOp.shr 3 (Operand.tmp 6) (Operand.const (Value.int IntKind.u64 12)) 35) (by kernel_rfl) ho
      have hx0 : ac.eval (.tmp 6) = .int .i64 c := hS.arg (p := 1) (d := 6) ho hall (by kernel_rfl) (by kernel_rfl)
      refine pure_op (t := t) (V := (fun t => VU v c d1 x2 d2 x3 d3 d4 n1 n2 n3 n4 t)) (W := (fun t => Wl W0 v ys ([92, 117, (n1 : Int), (n2 : Int), (n3 : Int), (n4 : Int)]) 0 16 17 18 t)) (v := .int .i64 d1) ?_ rfl (hW.next (i := 2) (by omega) (by omega) (by omega))
      unfold execOp
      simp only [ho1, hx0]
      go_simp
    · have ho1 := at_op (q := Op.binOp BinOp.and 3 (Operand.tmp 7) (Operand.const (Value.int IntKind.i64 15)) 3) (by kernel_rfl) ho
      have hx0 : ac.eval (.tmp 7) = .int .i64 d1 := hS.arg (p := 2) (d := 7) ho hall (by kernel_rfl) (by kernel_rfl)
      refine pure_op (t := t) (V := (fun t => VU v c d1 x2 d2 x3 d3 d4 n1 n2 n3 n4 t)) (W := (fun t => Wl W0 v ys ([92, 117, (n1 : Int), (n2 : Int), (n3 : Int), (n4 : Int)]) 0 16 17 18 t)) (v := .int .i64 d1) ?_ rfl (hW.next (i := 3) (by omega) (by omega) (by omega))
      unfold execOp
      simp only [ho1, hx0]
      go_simp
    · have ho1 := at_op (q := Op.index 9 (Operand.const (Value.string { data := #[48, 49, 50, 51, 52, 53, 54, 55, 56, 57, 65, 66, 67, 68, 69, 70] })) (Operand.tmp 8)) (by kernel_rfl) ho
      have hx0 : ac.eval (.tmp 8) = .int .i64 d1 := hS.arg (p := 3) (d := 8) ho hall (by kernel_rfl) (by kernel_rfl)
      refine pure_op (t := t) (V := (fun t => VU v c d1 x2 d2 x3 d3 d4 n1 n2 n3 n4 t)) (W := (fun t => Wl W0 v ys ([92, 117, (n1 : Int), (n2 : Int), (n3 : Int), (n4 : Int)]) 0 16 17 18 t)) (v := .int .u8 n1) ?_ rfl (hW.next (i := 4) (by omega) (by omega) (by omega))
      unfold execOp
      simp only [ho1, hx0]
      go_simp
    · have ho1 := at_op (q := Op.move (Operand.tmp 1)) (by kernel_rfl) ho
      have hx : ac.eval (.tmp 1) = .int .i64 c := (hS.out (by kernel_rfl)).trans h1
      exact pure_op (t := t) (V := (fun t => VU v c d1 x2 d2 x3 d3 d4 n1 n2 n3 n4 t)) (W := (fun t => Wl W0 v ys ([92, 117, (n1 : Int), (n2 : Int), (n3 : Int), (n4 : Int)]) 0 16 17 18 t)) (v := .int .i64 c) (k_move _ ho1 hx) rfl (hW.next (i := 5) (by omega) (by omega) (by omega))
    · have ho1 := at_op (q := Op.binOp BinOp.shr 3 (Operand.tmp 10) (Operand.const (Value.int IntKind.u64 8)) 35) (by kernel_rfl) ho
      have hx0 : ac.eval (.tmp 10) = .int .i64 c := hS.arg (p := 5) (d := 10) ho hall (by kernel_rfl) (by kernel_rfl)
      refine pure_op (t := t) (V := (fun t => VU v c d1 x2 d2 x3 d3 d4 n1 n2 n3 n4 t)) (W := (fun t => Wl W0 v ys ([92, 117, (n1 : Int), (n2 : Int), (n3 : Int), (n4 : Int)]) 0 16 17 18 t)) (v := .int .i64 x2) ?_ rfl (hW.next (i := 6) (by omega) (by omega) (by omega))
      unfold execOp
      simp only [ho1, hx0]
      go_simp
    · have ho1 := at_op (q := Op.binOp BinOp.and 3 (Operand.tmp 11) (Operand.const (Value.int IntKind.i64 15)) 3) (by kernel_rfl) ho
      have hx0 : ac.eval (.tmp 11) = .int .i64 x2 := hS.arg (p := 6) (d := 11) ho hall (by kernel_rfl) (by kernel_rfl)
      refine pure_op (t := t) (V := (fun t => VU v c d1 x2 d2 x3 d3 d4 n1 n2 n3 n4 t)) (W := (fun t => Wl W0 v ys ([92, 117, (n1 : Int), (n2 : Int), (n3 : Int), (n4 : Int)]) 0 16 17 18 t)) (v := .int .i64 d2) ?_ rfl (hW.next (i := 7) (by omega) (by omega) (by omega))
      unfold execOp
      simp only [ho1, hx0]
      go_simp
    · have ho1 := at_op (q := Op.index 9 (Operand.const (Value.string { data := #[48, 49, 50, 51, 52, 53, 54, 55, 56, 57, 65, 66, 67, 68, 69, 70] })) (Operand.tmp 12)) (by kernel_rfl) ho
      have hx0 : ac.eval (.tmp 12) = .int .i64 d2 := hS.arg (p := 7) (d := 12) ho hall (by kernel_rfl) (by kernel_rfl)
      refine pure_op (t := t) (V := (fun t => VU v c d1 x2 d2 x3 d3 d4 n1 n2 n3 n4 t)) (W := (fun t => Wl W0 v ys ([92, 117, (n1 : Int), (n2 : Int), (n3 : Int), (n4 : Int)]) 0 16 17 18 t)) (v := .int .u8 n2) ?_ rfl (hW.next (i := 8) (by omega) (by omega) (by omega))
      unfold execOp
      simp only [ho1, hx0]
      go_simp
    · have ho1 := at_op (q := Op.move (Operand.tmp 1)) (by kernel_rfl) ho
      have hx : ac.eval (.tmp 1) = .int .i64 c := (hS.out (by kernel_rfl)).trans h1
      exact pure_op (t := t) (V := (fun t => VU v c d1 x2 d2 x3 d3 d4 n1 n2 n3 n4 t)) (W := (fun t => Wl W0 v ys ([92, 117, (n1 : Int), (n2 : Int), (n3 : Int), (n4 : Int)]) 0 16 17 18 t)) (v := .int .i64 c) (k_move _ ho1 hx) rfl (hW.next (i := 9) (by omega) (by omega) (by omega))
    · have ho1 := at_op (q := Op.binOp BinOp.shr 3 (Operand.tmp 14) (Operand.const (Value.int IntKind.u64 4)) 35) (by kernel_rfl) ho
      have hx0 : ac.eval (.tmp 14) = .int .i64 c := hS.arg (p := 9) (d := 14) ho hall (by kernel_rfl) (by kernel_rfl)
      refine pure_op (t := t) (V := (fun t => VU v c d1 x2 d2 x3 d3 d4 n1 n2 n3 n4 t)) (W := (fun t => Wl W0 v ys ([92, 117, (n1 : Int), (n2 : Int), (n3 : Int), (n4 : Int)]) 0 16 17 18 t)) (v := .int .i64 x3) ?_ rfl (hW.next (i := 10) (by omega) (by omega) (by omega))
      unfold execOp
      simp only [ho1, hx0]
      go_simp
    · have ho1 := at_op (q := Op.binOp BinOp.and 3 (Operand.tmp 15) (Operand.const (Value.int IntKind.i64 15)) 3) (by kernel_rfl) ho
      have hx0 : ac.eval (.tmp 15) = .int .i64 x3 := hS.arg (p := 10) (d := 15) ho hall (by kernel_rfl) (by kernel_rfl)
      refine pure_op (t := t) (V := (fun t => VU v c d1 x2 d2 x3 d3 d4 n1 n2 n3 n4 t)) (W := (fun t => Wl W0 v ys ([92, 117, (n1 : Int), (n2 : Int), (n3 : Int), (n4 : Int)]) 0 16 17 18 t)) (v := .int .i64 d3) ?_ rfl (hW.next (i := 11) (by omega) (by omega) (by omega))
      unfold execOp
      simp only [ho1, hx0]
      go_simp
    · have ho1 := at_op (q := Op.index 9 (Operand.const (Value.string { data := #[48, 49, 50, 51, 52, 53, 54, 55, 56, 57, 65, 66, 67, 68, 69, 70] })) (Operand.tmp 16)) (by kernel_rfl) ho
      have hx0 : ac.eval (.tmp 16) = .int .i64 d3 := hS.arg (p := 11) (d := 16) ho hall (by kernel_rfl) (by kernel_rfl)
      refine pure_op (t := t) (V := (fun t => VU v c d1 x2 d2 x3 d3 d4 n1 n2 n3 n4 t)) (W := (fun t => Wl W0 v ys ([92, 117, (n1 : Int), (n2 : Int), (n3 : Int), (n4 : Int)]) 0 16 17 18 t)) (v := .int .u8 n3) ?_ rfl (hW.next (i := 12) (by omega) (by omega) (by omega))
      unfold execOp
      simp only [ho1, hx0]
      go_simp
    · have ho1 := at_op (q := Op.move (Operand.tmp 1)) (by kernel_rfl) ho
      have hx : ac.eval (.tmp 1) = .int .i64 c := (hS.out (by kernel_rfl)).trans h1
      exact pure_op (t := t) (V := (fun t => VU v c d1 x2 d2 x3 d3 d4 n1 n2 n3 n4 t)) (W := (fun t => Wl W0 v ys ([92, 117, (n1 : Int), (n2 : Int), (n3 : Int), (n4 : Int)]) 0 16 17 18 t)) (v := .int .i64 c) (k_move _ ho1 hx) rfl (hW.next (i := 13) (by omega) (by omega) (by omega))
    · have ho1 := at_op (q := Op.binOp BinOp.and 3 (Operand.tmp 18) (Operand.const (Value.int IntKind.i64 15)) 3) (by kernel_rfl) ho
      have hx0 : ac.eval (.tmp 18) = .int .i64 c := hS.arg (p := 13) (d := 18) ho hall (by kernel_rfl) (by kernel_rfl)
      refine pure_op (t := t) (V := (fun t => VU v c d1 x2 d2 x3 d3 d4 n1 n2 n3 n4 t)) (W := (fun t => Wl W0 v ys ([92, 117, (n1 : Int), (n2 : Int), (n3 : Int), (n4 : Int)]) 0 16 17 18 t)) (v := .int .i64 d4) ?_ rfl (hW.next (i := 14) (by omega) (by omega) (by omega))
      unfold execOp
      simp only [ho1, hx0]
      go_simp
    · have ho1 := at_op (q := Op.index 9 (Operand.const (Value.string { data := #[48, 49, 50, 51, 52, 53, 54, 55, 56, 57, 65, 66, 67, 68, 69, 70] })) (Operand.tmp 19)) (by kernel_rfl) ho
      have hx0 : ac.eval (.tmp 19) = .int .i64 d4 := hS.arg (p := 14) (d := 19) ho hall (by kernel_rfl) (by kernel_rfl)
      refine pure_op (t := t) (V := (fun t => VU v c d1 x2 d2 x3 d3 d4 n1 n2 n3 n4 t)) (W := (fun t => Wl W0 v ys ([92, 117, (n1 : Int), (n2 : Int), (n3 : Int), (n4 : Int)]) 0 16 17 18 t)) (v := .int .u8 n4) ?_ rfl (hW.next (i := 15) (by omega) (by omega) (by omega))
      unfold execOp
      simp only [ho1, hx0]
      go_simp
    · have ho1 := at_op (q := Op.buildSlice 24 6 #[(0, Operand.const (Value.int IntKind.u8 92)), (1, Operand.const (Value.int IntKind.u8 117)), (2, Operand.tmp 9), (3, Operand.tmp 13), (4, Operand.tmp 17), (5, Operand.tmp 20)]) (by kernel_rfl) ho
      have hx0 : ac.eval (.tmp 9) = .int .u8 n1 := hS.arg (p := 4) (d := 9) ho hall (by kernel_rfl) (by kernel_rfl)
      have hx1 : ac.eval (.tmp 13) = .int .u8 n2 := hS.arg (p := 8) (d := 13) ho hall (by kernel_rfl) (by kernel_rfl)
      have hx2 : ac.eval (.tmp 17) = .int .u8 n3 := hS.arg (p := 12) (d := 17) ho hall (by kernel_rfl) (by kernel_rfl)
      have hx3 : ac.eval (.tmp 20) = .int .u8 n4 := hS.arg (p := 15) (d := 20) ho hall (by kernel_rfl) (by kernel_rfl)
      have hrun : (execOp ac.eval o).run Try.prog w' = .ok (.value (.slice (some ⟨w'.heap.size, 0, none⟩) 6 6)) (w'.alloc (.cells (vs ([92, 117, (n1 : Int), (n2 : Int), (n3 : Int), (n4 : Int)])).toArray 5)) := by
        unfold execOp
        simp only [ho1, List.map_toArray, List.map_cons, List.map_nil, hx0, hx1, hx2, hx3]
        go_simp
        rfl
      unfold Oper.wp
      rw [hrun, Oper.upon_value]
      exact ⟨⟨w'.heap.size, t.v⟩, rfl, fun j hj => VU_g v c d1 x2 d2 x3 d3 d4 n1 n2 n3 n4 t _ j (by rintro rfl; rw [uf] at hj; cases hj), hW.build (by omega) (by omega) uf _ rfl⟩
    · have ho1 := at_op (q := Op.call { callee := Callee.builtin Builtin.append, args := #[Operand.tmp 5, Operand.tmp 21], argTypes := #[24, 24] }) (by kernel_rfl) ho
      have hx0 : ac.eval (.tmp 5) = v := hS.arg (p := 0) (d := 5) ho hall (by kernel_rfl) (by kernel_rfl)
      have hx1 : ac.eval (.tmp 21) = .slice (some ⟨t.g, 0, none⟩) 6 6 := hS.arg (p := 16) (d := 21) ho hall (by kernel_rfl) (by kernel_rfl)
      have hBl : L.getD 16 false = true := dep_listed (p := 16) (by kernel_rfl) ho hall
      refine app_op ho1 W0 v ys ([92, 117, (n1 : Int), (n2 : Int), (n3 : Int), (n4 : Int)]) t.g 6 _ rfl hx0 (hW.2.2.1 uf) hx1 (hW.2.2.2.1 hBl uf) hlen ?_
      intro v' w2 hb2
      refine ⟨⟨t.g, v'⟩, rfl, fun j hj => VU_v v c d1 x2 d2 x3 d3 d4 n1 n2 n3 n4 t _ j (by rintro rfl; rw [uf] at hj; cases hj) (by rintro rfl; have := (hW.1 hj).2; rw [uf] at this; cases this), ?_⟩
      unfold Wl
      rw [getD_set_other (i := 17) (j := 16) (by omega), getD_set_other (i := 17) (j := 18) (by omega), getD_set_same (by rw [hL, sizeU]; omega)]
      refine ⟨fun hz => ?_, fun _ => hBl, (fun h => by cases h), (fun _ h => by cases h), fun _ => hb2⟩
      have := (hW.1 hz).2
      rw [uf] at this; cases this
    · have ho1 := at_op (q := Op.assign (Operand.tmp 22)) (by kernel_rfl) ho
      have hx : ac.eval (.tmp 22) = t.v := hS.arg (p := 17) (d := 22) ho hall (by kernel_rfl) (by kernel_rfl)
      have hA := dep_listed (p := 17) (by kernel_rfl) ho hall
      have h0l := dep_listed (p := 0) (by kernel_rfl) ho hall
      refine pure_op (t := t) (V := (fun t => VU v c d1 x2 d2 x3 d3 d4 n1 n2 n3 n4 t)) (W := (fun t => Wl W0 v ys ([92, 117, (n1 : Int), (n2 : Int), (n3 : Int), (n4 : Int)]) 0 16 17 18 t)) (v := t.v) ?_ rfl (hW.fin (by omega) (by omega) h0l hA)
      unfold execOp
      simp only [ho1, hx]
      go_simp
  · intro t L ac w' hall hS hW
    have hfin := hS.final (by rw [hs]; kernel_rfl) hall
    have he : finAct opsU (VU v c d1 x2 d2 x3 d3 d4 n1 n2 n3 n4 t) a00 19 = (((((((((((((((((((a00.put (some 5) (v)).put (some 6) (.int .i64 c)).put (some 7) (.int .i64 d1)).put (some 8) (.int .i64 d1)).put (some 9) (.int .u8 n1)).put (some 10) (.int .i64 c)).put (some 11) (.int .i64 x2)).put (some 12) (.int .i64 d2)).put (some 13) (.int .u8 n2)).put (some 14) (.int .i64 c)).put (some 15) (.int .i64 x3)).put (some 16) (.int .i64 d3)).put (some 17) (.int .u8 n3)).put (some 18) (.int .i64 c)).put (some 19) (.int .i64 d4)).put (some 20) (.int .u8 n4)).put (some 21) (.slice (some ⟨t.g, 0, none⟩) 6 6)).put (some 22) (t.v)).put (some 4) (t.v)) := by kernel_rfl
    rw [sizeU, he] at hfin
    rw [hfin]
    exact hQ t w' (hW.2.2.2.2 (hall 17 (by rw [sizeU]; omega)))
end Go.Proofs.Ytojckppnooaiaaa.qw
