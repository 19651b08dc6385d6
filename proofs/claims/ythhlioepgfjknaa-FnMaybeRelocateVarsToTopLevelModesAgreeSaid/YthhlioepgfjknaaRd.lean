/-
  maybeRelocateVarsToTopLevel walked.
-/
import Derived.Test.YthhlioepgfjknaaRc
import Derived.Deep.RegionWith
import Derived.Deep.DeepCutAuto
import Derived.LaidEqlPtr
namespace Go.Proofs.Ythhlioepgfjknaa.rl
open Go.ChangeShapes Go.WideShapes Go.ChangeAt Go.RowKit Go.Deep Go.Proofs.Ythhlioepgfjknaa.ch
set_option linter.unusedVariables false
set_option linter.unusedSimpArgs false
set_option maxRecDepth 100000
set_option maxHeartbeats 8000000
theorem glue {F G : Nat → Prop} {a b c : World} (h : ch.Touch G a b) (k : ch.Touch F b c) (e : ∀ i, i < a.heap.size → F i → G i) : ch.Touch G a c :=
  ⟨k.os.trans h.os, k.tape.trans h.tape, k.output.trans h.output, Nat.le_trans h.size k.size, fun i hi hn => (k.block i (Nat.lt_of_lt_of_le hi h.size) (fun f => hn (e i hi f))).trans (h.block i hi hn)⟩
theorem neq_same {P : Program} (w : World) {tp te : TypeId} {j : TypeInfo} (a : Addr) (hp : P.underlying tp = some (.pointer te)) (hte : P.info? te = some j) :
    (binOp .neq tp (.pointer (some a)) (.pointer (some a))).run P w = .ok (.bool false) w := by
  have h : ∀ d : Nat, (Op.equalIn (d + 1) tp (.pointer (some a)) (.pointer (some a))).run P w = .ok true w := fun d => by
    simp [Op.equalIn, run_underlying hp, sizeOf, typeInfo, hte, run_sameAddr_same]
  simp only [binOp]
  simp [Op.equal, Op.maxDepth, h 9999]
theorem neq_other {P : Program} (w : World) {tp te : TypeId} {j : TypeInfo} {a b : Addr} {ca cb : Array Value} {ta tb : TypeId} (hp : P.underlying tp = some (.pointer te)) (hte : P.info? te = some j) (hsz : j.size ≠ 0)
    (hne : a ≠ b) (ha : w.heap[a.block]? = some (.cells ca ta (0, 0))) (hb : w.heap[b.block]? = some (.cells cb tb (0, 0))) :
    (binOp .neq tp (.pointer (some a)) (.pointer (some b))).run P w = .ok (.bool true) w := by
  have h : ∀ d : Nat, (Op.equalIn (d + 1) tp (.pointer (some a)) (.pointer (some b))).run P w = .ok false w := fun d => by
    simp [Op.equalIn, run_underlying hp, sizeOf, typeInfo, hte, hsz, run_sameAddr_other w hne ha hb]
  simp only [binOp]
  simp [Op.equal, Op.maxDepth, h 9999]
/-- The scopes from block c up to block m: k of them lie between. -/
def Sc (w : World) (m : Nat) (f : Nat → Bool) : Nat → Nat → Prop
  | 0, c => c = m ∧ w.cell? ⟨c, 15, none⟩ = some (.int .u8 6) ∧ ∃ cs, w.heap[c]? = some (.cells cs 211 (0, 0))
  | k + 1, c => m < c ∧ w.cell? ⟨c, 15, none⟩ = some (.int .u8 (if f k then 8 else 0)) ∧ (∃ cs, w.heap[c]? = some (.cells cs 211 (0, 0))) ∧ ∃ c', c' < c ∧ w.cell? ⟨c, 1, none⟩ = some (ptr c') ∧ Sc w m f k c'
theorem Sc.ge {w : World} {m : Nat} {f : Nat → Bool} {k c : Nat} (h : Sc w m f k c) : m ≤ c := by
  cases k with
  | zero => exact Nat.le_of_eq h.1.symm
  | succ k => exact Nat.le_of_lt h.1
theorem Sc.lt {w : World} {m : Nat} {f : Nat → Bool} {k c : Nat} (h : Sc w m f k c) : c < w.heap.size := by
  cases k with
  | zero => exact block_lt_of_cell h.2.1
  | succ k => exact block_lt_of_cell h.2.1
theorem Sc.head {w : World} {m : Nat} {f : Nat → Bool} {k c : Nat} (h : Sc w m f k c) : ∃ cs, w.heap[c]? = some (.cells cs 211 (0, 0)) := by
  cases k with
  | zero => exact h.2.2
  | succ k => exact h.2.2.1
theorem Sc.root {w : World} {m : Nat} {f : Nat → Bool} {k c : Nat} (h : Sc w m f k c) : ∃ cs, w.heap[m]? = some (.cells cs 211 (0, 0)) := by
  induction k generalizing c with
  | zero => rw [← h.1]; exact h.2.2
  | succ k ih => obtain ⟨_, _, _, c', _, _, h5⟩ := h; exact ih h5
theorem Sc.keep {w w' : World} {m : Nat} {f : Nat → Bool} {k c : Nat} (h : Sc w m f k c) (e : ∀ b, b ≤ c → w'.heap[b]? = w.heap[b]?) : Sc w' m f k c := by
  induction k generalizing c with
  | zero => exact ⟨h.1, (World.cell?_of_block (a := ⟨c, 15, none⟩) (e c (Nat.le_refl _))).trans h.2.1, by rw [e c (Nat.le_refl _)]; exact h.2.2⟩
  | succ k ih =>
    obtain ⟨h1, h2, hc, c', h3, h4, h5⟩ := h
    exact ⟨h1, (World.cell?_of_block (a := ⟨c, 15, none⟩) (e c (Nat.le_refl _))).trans h2, by rw [e c (Nat.le_refl _)]; exact hc, c', h3, (World.cell?_of_block (a := ⟨c, 1, none⟩) (e c (Nat.le_refl _))).trans h4, ih h5 fun b hb => e b (by omega)⟩
theorem i211 : ∃ j, Try.prog.info? 211 = some j ∧ j.size ≠ 0 := by
  have h : (Try.prog.info? 211).map (fun i => i.size) = some 16 := by kernel_rfl
  obtain ⟨j, h1, h2⟩ := Option.map_eq_some_iff.1 h
  exact ⟨j, h1, by rw [h2]; decide⟩
theorem eqS (w : World) (b : Nat) : (binOp .eql 137 (ptr b) (ptr b)).run Try.prog w = .ok (.bool true) w := by
  obtain ⟨j, h1, h2⟩ := i211
  exact run_eql_ptr_same w _ Try.underlying137 h1
theorem neS (w : World) (b : Nat) : (binOp .neq 137 (ptr b) (ptr b)).run Try.prog w = .ok (.bool false) w := by
  obtain ⟨j, h1, h2⟩ := i211
  exact neq_same w _ Try.underlying137 h1
theorem ptr_ne {b c : Nat} (h : b ≠ c) : (⟨b, 0, none⟩ : Addr) ≠ ⟨c, 0, none⟩ := fun e => h (congrArg Addr.block e)
theorem eqO (w : World) (b c : Nat) (h : b ≠ c) (hb : ∃ cs, w.heap[b]? = some (.cells cs 211 (0, 0))) (hc : ∃ cs, w.heap[c]? = some (.cells cs 211 (0, 0))) : (binOp .eql 137 (ptr b) (ptr c)).run Try.prog w = .ok (.bool false) w := by
  obtain ⟨j, h1, h2⟩ := i211
  obtain ⟨x, hb⟩ := hb
  obtain ⟨y, hc⟩ := hc
  exact run_eql_ptr_other w Try.underlying137 h1 h2 (ptr_ne h) hb hc
theorem neO (w : World) (b c : Nat) (h : b ≠ c) (hb : ∃ cs, w.heap[b]? = some (.cells cs 211 (0, 0))) (hc : ∃ cs, w.heap[c]? = some (.cells cs 211 (0, 0))) : (binOp .neq 137 (ptr b) (ptr c)).run Try.prog w = .ok (.bool true) w := by
  obtain ⟨j, h1, h2⟩ := i211
  obtain ⟨x, hb⟩ := hb
  obtain ⟨y, hc⟩ := hc
  exact neq_other w Try.underlying137 h1 h2 (ptr_ne h) hb hc
/-- The declarations: element j of the row at block d; its binding's block bi j. -/
structure De (w : World) (d n : Nat) (bi : Nat → Nat) (R L : Nat → Nat) (has : Nat → Bool) : Prop where
  cell : ∀ j, j < n → w.cell? ⟨d, j * 4, none⟩ = some (.iface 215 (ptr (bi j))) ∧ w.cell? ⟨d, j * 4 + 1, none⟩ = some (.int .i32 (L j)) ∧
    (∃ v : Value, ∃ x : Int, w.cell? ⟨d, j * 4 + 2, none⟩ = some v ∧ (if has j = true then NN v else v = .nilIface) ∧ w.cell? ⟨d, j * 4 + 3, none⟩ = some (.int .i32 x))
  box : ∀ j, j < n → w.cell? ⟨bi j, 0, none⟩ = some (.int .u32 0) ∧ w.cell? ⟨bi j, 1, none⟩ = some (.int .u32 (R j))
theorem De.keep {w w' : World} {d n : Nat} {bi R L : Nat → Nat} {has : Nat → Bool} (h : De w d n bi R L has) (h1 : w'.heap[d]? = w.heap[d]?) (h2 : ∀ j, j < n → w'.heap[bi j]? = w.heap[bi j]?) : De w' d n bi R L has := by
  have c : ∀ o, w'.cell? ⟨d, o, none⟩ = w.cell? ⟨d, o, none⟩ := fun o => World.cell?_of_block (a := ⟨d, o, none⟩) h1
  refine ⟨fun j hj => ?_, fun j hj => ?_⟩
  · obtain ⟨a1, a2, v, x, a3, a4, a5⟩ := h.cell j hj
    exact ⟨(c _).trans a1, (c _).trans a2, v, x, (c _).trans a3, a4, (c _).trans a5⟩
  · have := h.box j hj
    exact ⟨(World.cell?_of_block (a := ⟨bi j, 0, none⟩) (h2 j hj)).trans this.1, (World.cell?_of_block (a := ⟨bi j, 1, none⟩) (h2 j hj)).trans this.2⟩
/-- Does one of the first j declarations give something? -/
def cb (m : Bool) (has : Nat → Bool) : Nat → Bool
  | 0 => false
  | j + 1 => cb m has j || (m || has j)
/-- The list after j declarations. -/
def recs (L R : Nat → Nat) : Nat → List Value
  | 0 => []
  | j + 1 => recs L R j ++ rec3 (L j) (R j)
/-- Is it a place where declarations are moved? -/
def okB (mode : Int) (depth : Int) (nc : Nat) (f : Nat → Bool) : Prop := mode = 2 ∧ ¬ (nc = 0 ∧ depth = 0) ∧ ∀ j, j < nc → f j = false
def blk : Value → Nat
  | .pointer (some a) => a.block
  | _ => 0
def b2i (m : Bool) : Int := if m then 1 else 0
/-- What is left behind. -/
def RelP (B0 : Nat) (w : World) (p s n : Nat) (mode : Int) (cur mod : Nat) (depth : Int) (R L : Nat → Nat) (has : Nat → Bool) (m : Bool) (ok : Bool) (e : Ending) (w' : World) : Prop :=
  ∃ d l rv, e = .returned (.tuple #[.agg #[d, .int .i32 l], .bool ok]) ∧ (if ok = true ∧ cb m has n = true then NN d else d = .nilIface) ∧
    w'.cell? ⟨p, 196, none⟩ = some rv ∧ Own (B0) w' rv (if ok then n else 0) (recs L R (if ok then n else 0)) ∧ ch.Touch (fun b => b = p ∨ b = s) w w'
theorem relP_no {w W : World} {p s n : Nat} {mode : Int} {cur mod : Nat} {depth : Int} (R L : Nat → Nat) (has : Nat → Bool) (m : Bool) (H : St w p s n mode cur mod depth (.slice none 0 0)) (ht : ch.Touch (fun _ => False) w W) :
    RelP w.heap.size w p s n mode cur mod depth R L has m false (.returned (.tuple #[.agg #[.nilIface, .int .i32 0], .bool false])) W :=
  ⟨_, _, .slice none 0 0, rfl, by simp, (H.touch ht id id).c196, World.ownsRowF_nil _ _ _ _, ht.mono fun _ _ h => h.elim⟩
theorem joinX (w : World) (b : Bool) (d1 d2 : Value) (l1 l2 : Int) (h1 : if b = true then NN d1 else d1 = .nilIface) (h2 : NN d2) : Calls Try.prog 44 #[.agg #[d1, .int .i32 l1], .agg #[d2, .int .i32 l2]] w fun e w' => ∃ l, ExprP w l e w' := by
  cases b with
  | true => exact (join44 w d1 d2 l1 l2 (by simpa using h1) h2).mono fun e w' h => ⟨_, h⟩
  | false =>
    have : d1 = .nilIface := by simpa using h1
    subst this
    exact (joinNil44 w d2 l1 l2 h2).mono fun e w' h => ⟨_, h⟩
/-- The loop over the declarations: world w1 at its start, j declarations done. -/
structure Lp (w1 wr : World) (p s n : Nat) (mode : Int) (cur mod : Nat) (depth : Int) (R L : Nat → Nat) (has : Nat → Bool) (m : Bool) (v : Nat) (j : Nat) (rv dv : Value) (lv : Int) : Prop where
  st : St wr p s n mode cur mod depth rv
  own : Own w1.heap.size wr rv j (recs L R j)
  touch : ch.Touch (fun b => b = p ∨ b = s ∨ b = v) w1 wr
  box : wr.heap[v]? = some (.cells #[dv, .int .i32 lv] 30 (0, 0))
  dvs : if cb m has j = true then NN dv else dv = .nilIface
  lts : p < w1.heap.size ∧ s < w1.heap.size ∧ v < w1.heap.size ∧ v ≠ p ∧ v ≠ s
section
variable {w1 wr W : World} {p s n : Nat} {mode : Int} {cur mod : Nat} {depth : Int} {R L : Nat → Nat} {has : Nat → Bool} {m : Bool} {v : Nat} {j : Nat} {rv rv' dv d : Value} {lv l : Int}
theorem Lp.stay (h : Lp w1 wr p s n mode cur mod depth R L has m v j rv dv lv) (H : St W p s n mode cur mod depth rv') (O : Own w1.heap.size W rv' (j + 1) (recs L R j ++ rec3 (L j) (R j)))
    (T : ch.Touch (fun b => b = p ∨ b = s ∨ rv.ownBlock = some b) wr W) (e : cb m has (j + 1) = cb m has j) : Lp w1 W p s n mode cur mod depth R L has m v (j + 1) rv' dv lv := by
  obtain ⟨h1, h2, h3, h4, h5, h6⟩ := h
  obtain ⟨a1, a2, a3, a4, a5⟩ := h6
  refine ⟨H, O, glue h3 T ?_, (T.block v (Nat.lt_of_lt_of_le a3 h3.size) ?_).trans h4, by rw [e]; exact h5, ⟨a1, a2, a3, a4, a5⟩⟩
  · rintro i hi (rfl | rfl | hx)
    · exact .inl rfl
    · exact .inr (.inl rfl)
    · exact absurd hx (h2.far hi)
  · rintro (hx | hx | hx)
    · exact a4 hx
    · exact a5 hx
    · exact h2.far a3 hx
theorem Lp.set (h : Lp w1 wr p s n mode cur mod depth R L has m v j rv dv lv) (H : St W p s n mode cur mod depth rv') (O : Own w1.heap.size W rv' (j + 1) (recs L R j ++ rec3 (L j) (R j)))
    (T : ch.Touch (fun b => b = p ∨ b = s ∨ rv.ownBlock = some b) wr W) (e : cb m has (j + 1) = true) (hd : NN d) :
    Lp w1 ((W.setCell ⟨v, 0, none⟩ d).setCell ⟨v, 1, none⟩ (.int .i32 l)) p s n mode cur mod depth R L has m v (j + 1) rv' d l := by
  obtain ⟨h1, h2, h3, h4, h5, h6⟩ := h
  obtain ⟨a1, a2, a3, a4, a5⟩ := h6
  have hne : ∀ b, b ≠ v → ((W.setCell ⟨v, 0, none⟩ d).setCell ⟨v, 1, none⟩ (.int .i32 l)).heap[b]? = W.heap[b]? := fun b hb => (Below.heap_setCell _ _ _ _ (by exact hb)).trans (Below.heap_setCell _ _ _ _ (by exact hb))
  have hb : W.heap[v]? = some (.cells #[dv, .int .i32 lv] 30 (0, 0)) := (T.block v (Nat.lt_of_lt_of_le a3 h3.size) (by
    rintro (hx | hx | hx)
    · exact a4 hx
    · exact a5 hx
    · exact h2.far a3 hx)).trans h4
  refine ⟨H.of_blocks (hne p (fun e => a4 e.symm)) (hne s (fun e => a5 e.symm)), O.of_block fun b hb => hne b (fun e => O.far a3 (by rw [hb, e])), ?_, ?_, by rw [if_pos e]; exact hd, ⟨a1, a2, a3, a4, a5⟩⟩
  · have h0 : ch.Touch (fun b => b = p ∨ b = s ∨ b = v) w1 W := glue h3 T (by
      rintro i hi (rfl | rfl | hx)
      · exact .inl rfl
      · exact .inr (.inl rfl)
      · exact absurd hx (h2.far hi))
    exact (h0.setCell ⟨v, 0, none⟩ (fun _ => .inr (.inr rfl)) _).setCell ⟨v, 1, none⟩ (fun _ => .inr (.inr rfl)) _
  · have h0 := heap_setCell_same W v 0 _ 30 d hb
    have h1 := heap_setCell_same _ v 1 _ 30 (.int .i32 l) h0
    exact h1
end
theorem Own.base {B B' : Nat} {w : World} {v : Value} {k : Nat} {xs : List Value} (h : Own B w v k xs) (hB : B' ≤ B) : Own B' w v k xs := by
  obtain ⟨h1, h2⟩ := h
  refine ⟨h1, ?_⟩
  rcases h2 with h2 | ⟨g, cap, cur, fz, e, hbg, h3⟩
  · exact .inl h2
  · exact .inr ⟨g, cap, cur, fz, e, Nat.le_trans hB hbg, h3⟩
/-- The end: what holds behind the loop is what is to be shown. -/
theorem relP_yes {w w1 wr W : World} {p s n : Nat} {mode : Int} {cur mod : Nat} {depth : Int} {R L : Nat → Nat} {has : Nat → Bool} {m : Bool} {v : Nat} {rv dv : Value} {lv : Int} (h : Lp w1 wr p s n mode cur mod depth R L has m v n rv dv lv)
    (h1 : ch.Touch (fun _ => False) w w1) (ht : ch.Touch (fun b => b = w.heap.size + 1) wr W) (hv : v = w.heap.size + 2) (hs1 : w1.heap.size = w.heap.size + 3) (hp : p < w.heap.size) (hs : s < w.heap.size) (d : Value) (l : Int) (hd : if cb m has n = true then NN d else d = .nilIface) :
    RelP w.heap.size w p s n mode cur mod depth R L has m true (.returned (.tuple #[.agg #[d, .int .i32 l], .bool true])) W := by
  obtain ⟨a1, a2, a3, a4, a5, a6⟩ := h
  refine ⟨d, l, rv, rfl, by simpa using hd, (a1.touch ht (by omega) (by omega)).c196, (a2.of_block fun b hb => ht.block b (World.ownsRowF.lt a2 b hb).2 (fun e => a2.far (show w.heap.size + 1 < w1.heap.size by omega) (by rw [hb, e]))).base (by omega), ?_⟩
  have h0 : ch.Touch (fun b => b = p ∨ b = s ∨ w.heap.size ≤ b) w wr := glue (h1.mono fun _ _ h => h.elim) a3 (by rintro i hi (h | h | h); exact .inl h; exact .inr (.inl h); omega)
  have h2 : ch.Touch (fun b => b = p ∨ b = s ∨ w.heap.size ≤ b) w W := glue h0 ht (fun i hi e => by have e : i = w.heap.size + 1 := e; omega)
  exact h2.mono (by rintro k hk (h | h | h); exact .inl h; exact .inr h; omega)
section
variable (w : World) (p s n : Nat) (mode : Int) (cur mod : Nat) (depth : Int) (d dc : Nat) (bi R L : Nat → Nat) (has : Nat → Bool) (m : Bool) (nc : Nat) (f : Nat → Bool)
theorem rel39 (H : St w p s n mode cur mod depth (.slice none 0 0)) (hS : Sc w mod f nc cur) (hD : De w d n bi R L has) (hn : n ≤ 65536) (hR : ∀ j, j < n → R j < n) (hds : d ≠ s) (hdp : d ≠ p) (hbp : ∀ j, j < n → bi j ≠ p ∧ bi j ≠ s) (ok : Bool) (hok : ok = true ↔ okB mode depth nc f) :
    Calls Try.prog 39 #[ptr p, .slice (some ⟨d, 0, none⟩) n dc, .int .u8 (b2i m)] w (RelP w.heap.size w p s n mode cur mod depth R L has m ok) := by
  have HH := Lib.hid H
  have HS := Lib.hid hS
  have HD := Lib.hid hD
  have hlt := H.lt
  obtain ⟨hpl, hsl⟩ := hlt
  have hcl := hS.lt
  have c34 := H.c34
  have c104 := H.c104
  have c187 := H.c187
  have c339 := H.c339
  have hge := hS.ge
  go_enter Try.func39, Try.ntmps39
  go_upto_region 1 with (fail)
  by_cases hbad : mode = 2 ∧ ¬ (nc = 0 ∧ depth = 0)
  · obtain ⟨rfl, hnd⟩ := hbad
    go_cut [38] (fun c wx => c = .bool false ∧ wx = ((w.alloc (.cells #[ptr p] 60)).alloc (.cells #[.nilIface, .int .i32 0] 67)).drew)
    case first =>
      cases nc with
      | zero =>
        obtain rfl : cur = mod := hS.1
        have hd : ¬ depth = 0 := fun h => hnd ⟨rfl, h⟩
        have e1 : (depth == 0) = false := by simp [hd]
        have e2 := eqS (((w.alloc (.cells #[ptr p] 60)).alloc (.cells #[.nilIface, .int .i32 0] 67)).drew) cur
        clear hnd hok
        go_region
        all_goals
          go_wp2_with fail
          go_meet
          exact ⟨rfl, rfl⟩
      | succ nc =>
        have hne : cur ≠ mod := by have := hS.1; omega
        have h1 : ∀ b, b < w.heap.size → (((w.alloc (.cells #[ptr p] 60)).alloc (.cells #[.nilIface, .int .i32 0] 67)).drew).heap[b]? = w.heap[b]? := fun b hb => (Below.heap_alloc _ _ _ (by simp; omega)).trans (Below.heap_alloc _ _ _ hb)
        have e2 := eqO (((w.alloc (.cells #[ptr p] 60)).alloc (.cells #[.nilIface, .int .i32 0] 67)).drew) cur mod hne (by rw [h1 cur (by omega)]; exact hS.head) (by rw [h1 mod (by omega)]; exact hS.root)
        clear hnd hok h1 hne hge
        go_region
        all_goals
          go_wp2_with fail
          go_meet
          exact ⟨rfl, rfl⟩
    case rest =>
      obtain ⟨rfl, rfl⟩ := hcut
      have HT0 := Lib.hid ((((ch.Touch.refl (fun _ => False) w).alloc (.cells #[ptr p] 60)).alloc (.cells #[.nilIface, .int .i32 0] 67)).drew)
      have g3 : (((w.alloc (.cells #[ptr p] 60)).alloc (.cells #[.nilIface, .int .i32 0] 67)).drew).cell? ⟨w.heap.size, 0, none⟩ = some (ptr p) := by go_simp
      have G6 : Hid ((((w.alloc (.cells #[ptr p] 60)).alloc (.cells #[.nilIface, .int .i32 0] 67)).drew).heap[w.heap.size + 1]? = some (.cells #[.nilIface, .int .i32 0] 67 (0, 0))) := Lib.hid (by
        have := heap_alloc_new (w.alloc (.cells #[ptr p] 60)) (.cells #[.nilIface, .int .i32 0] 67)
        rw [show (w.alloc (.cells #[ptr p] 60)).heap.size = w.heap.size + 1 by simp] at this
        exact this)
      have hsz : (((w.alloc (.cells #[ptr p] 60)).alloc (.cells #[.nilIface, .int .i32 0] 67)).drew).heap.size = w.heap.size + 2 := by simp [heap_drew]
      generalize (((w.alloc (.cells #[ptr p] 60)).alloc (.cells #[.nilIface, .int .i32 0] 67)).drew) = W0 at *
      have HS0 := Lib.hid (hS.keep (w' := W0) fun b hb => HT0.out.block b (by omega) id)
      have H0 := Lib.hid (HH.out.touch HT0.out id id)
      have d104 := H0.out.c104
      have d187 := H0.out.c187
      have HOK := Lib.hid hok
      have HNC := Lib.hid hnd
      clear hok hnd c34 c104 c187 c339 H hS hD
      go_wp2_with fail
      go_loopw [8] (fun v8 wr => ∃ k c, v8 = ptr c ∧ W0 = wr ∧ Sc W0 mod f k c ∧ k ≤ nc ∧ c ≤ cur ∧ ∀ j, k ≤ j → j < nc → f j = false) (fun v _ => blk v)
      case atStart => exact ⟨nc, cur, rfl, rfl, HS0.out, Nat.le_refl _, Nat.le_refl _, fun j h1 h2 => by omega⟩
      case round =>
        obtain ⟨k, c, rfl, rfl, hsc, hk, hcc, hfk⟩ := hrel
        cases k with
        | zero =>
          obtain ⟨rfl, h2, h3⟩ := hsc
          have e5 := neS W0 c
          have hokt : ok = true := HOK.out.2 ⟨rfl, HNC.out, fun j hj => hfk j (by omega) hj⟩
          subst hokt
          clear hfk HOK HNC
          go_upto_region 8 with (go_at_call 40; refine (stops40 _ 6 true rfl).mono ?_; rintro _ _ ⟨rfl, rfl⟩)
          go_wp2_with fail
          clear e5 h2 h3 hge hcc hk d104 d187
          have hs1 : (W0.alloc (.cells #[.nilIface, .int .i32 0] 30)).heap.size = w.heap.size + 3 := by simp [hsz]
          have HT1 := Lib.hid (HT0.out.alloc (.cells #[.nilIface, .int .i32 0] 30))
          have g31 : Hid ((W0.alloc (.cells #[.nilIface, .int .i32 0] 30)).cell? ⟨w.heap.size, 0, none⟩ = some (ptr p)) := Lib.hid (by
            rw [World.cell?_alloc_lt _ _ _ (show w.heap.size < W0.heap.size by omega)]; exact g3)
          have G61 : Hid ((W0.alloc (.cells #[.nilIface, .int .i32 0] 30)).heap[w.heap.size + 1]? = some (.cells #[.nilIface, .int .i32 0] 67 (0, 0))) := Lib.hid (by rw [Below.heap_alloc _ _ _ (by omega)]; exact G6.out)
          have G7 : (W0.alloc (.cells #[.nilIface, .int .i32 0] 30)).heap[w.heap.size + 2]? = some (.cells #[.nilIface, .int .i32 0] 30 (0, 0)) := by
            have := heap_alloc_new W0 (.cells #[.nilIface, .int .i32 0] 30)
            rw [hsz] at this
            exact this
          have H1 := (H0.out.alloc (.cells #[.nilIface, .int .i32 0] 30))
          have e10 : W0.heap.size = w.heap.size + 2 := hsz
          try simp only [e10]
          clear H0 HT0 G6 g3 hsz HS0
          generalize (W0.alloc (.cells #[.nilIface, .int .i32 0] 30)) = w1 at *
          have hL0 : Lp w1 w1 p s n 2 cur c depth R L has m (w.heap.size + 2) 0 (.slice none 0 0) .nilIface 0 :=
            ⟨H1, World.ownsRowF_nil _ _ _ _, ch.Touch.refl _ _, G7, by simp [cb], ⟨by omega, by omega, by omega, by omega, by omega⟩⟩
          have HL0 := Lib.hid hL0
          clear hL0 H1 G7 e10
          go_loopw [64] (fun v64 wr => ∃ j rv dv lv, v64 = .int .i64 (j : Nat) ∧ j ≤ n ∧ Lp w1 wr p s n 2 cur c depth R L has m (w.heap.size + 2) j rv dv lv) (fun v _ => n - (intOf v).toNat)
          case atStart => exact ⟨0, _, _, _, rfl, by omega, HL0.out⟩
          case round =>
            obtain ⟨j, rv, dv, lv, rfl, hj, hlp⟩ := hrel
            rename World => wr
            have HLP := Lib.hid hlp
            clear hlp HL0
            by_cases hlt : j < n
            · have hRj := hR j hlt
              have hw1s := HLP.out.touch.size
              have hdl : d < w.heap.size := block_lt_of_cell (HD.out.cell j hlt).1
              have hbl : ∀ i, i < n → bi i < w.heap.size := fun i hi => block_lt_of_cell (HD.out.box i hi).1
              have hF : ∀ b, b < w.heap.size → b ≠ p → b ≠ s → wr.heap[b]? = w.heap[b]? := fun b h1 h2 h3 => (HLP.out.touch.block b (by omega) (by rintro (h | h | h); exact h2 h; exact h3 h; omega)).trans (HT1.out.block b h1 id)
              have hD1 : De wr d n bi R L has := HD.out.keep (hF d hdl hdp hds) (fun i hi => hF (bi i) (hbl i hi) (hbp i hi).1 (hbp i hi).2)
              obtain ⟨k0, k1, v, x, k2, k3, k4⟩ := hD1.cell j hlt
              have hbx := hD1.box j hlt
              have HBX := Lib.hid hbx
              have hbj := hbl j hlt
              have HP := Lib.hid HLP.out.lts
              have c7 : wr.cell? ⟨w.heap.size, 0, none⟩ = some (ptr p) := (Tc HLP.out.touch (o := 0) (b := w.heap.size) (by omega) (by rintro (h | h | h) <;> omega)).trans g31.out
              have C7 := Lib.hid c7
              clear hD1 hbx hF hbl c7
              cases hh : has j with
              | true =>
                rw [hh] at k3
                obtain ⟨T, bv, rfl⟩ : NN v := by simpa using k3
                clear k3
                go_upto_region 14 with (go_at_call 43; refine (conv43 w1.heap.size _ p s n 2 cur c depth rv j (recs L R j) w.heap.size (bi j) (L j) (R j) (HLP.out.st.alloc _) (HLP.out.own.alloc _) (by omega) hn hRj (by simp; omega) HP.out.1 HP.out.2.1 (by omega) (by omega) ((World.cell?_alloc_lt _ _ _ (show w.heap.size < wr.heap.size by omega)).trans C7.out) (by omega) ((World.cell?_alloc_lt _ _ _ (show bi j < wr.heap.size by omega)).trans HBX.out.1) ((World.cell?_alloc_lt _ _ _ (show bi j < wr.heap.size by omega)).trans HBX.out.2)).mono ?_; rintro _ W2 ⟨d2, rv2, rfl, ⟨T2, b2, rfl⟩, H2, O2, Tc2⟩)
                have hFT : ∀ b, w.heap.size ≤ b → b < w1.heap.size ∨ wr.heap.size ≤ b → ¬ (b = p ∨ b = s ∨ rv.ownBlock = some b) := by
                  rintro b h1 h2 (h | h | h)
                  · omega
                  · omega
                  · rcases h2 with h2 | h2
                    · exact HLP.out.own.far h2 h
                    · exact HLP.out.own.past h2 h
                have m12 : W2.heap[wr.heap.size]? = some (.cells #[.iface 215 (ptr (bi j)), .int .i32 (L j), .iface T (ptr bv), .int .i32 x] 223 (0, 0)) := (Tc2.block wr.heap.size (by simp) (hFT _ (by omega) (.inr (by omega)))).trans (heap_alloc_new _ _)
                have m10 : W2.heap[w.heap.size + 2]? = some (.cells #[dv, .int .i32 lv] 30 (0, 0)) := (Tc2.block (w.heap.size + 2) (by simp; omega) (hFT _ (by omega) (.inl (by omega)))).trans ((Below.heap_alloc _ _ _ (by omega)).trans HLP.out.box)
                have hz2 := Tc2.size
                rw [show (wr.alloc (.cells #[.iface 215 (ptr (bi j)), .int .i32 (L j), .iface T (ptr bv), .int .i32 x] 223)).heap.size = wr.heap.size + 1 by simp] at hz2
                have HT2 := Lib.hid (glue ((ch.Touch.refl (fun b => b = p ∨ b = s ∨ rv.ownBlock = some b) wr).alloc (.cells #[.iface 215 (ptr (bi j)), .int .i32 (L j), .iface T (ptr bv), .int .i32 x] 223)) Tc2 (fun _ _ h => h))
                have e12 : (W2.alloc (.cells #[.iface T2 (ptr b2), .int .i32 (L j)] 30)).cell? ⟨wr.heap.size, 2, none⟩ = some (.iface T (ptr bv)) := by rw [World.cell?_alloc_lt _ _ _ (show wr.heap.size < W2.heap.size by omega), cell_of_row W2 _ 2 _ _ _ m12]; rfl
                have e13 : (W2.alloc (.cells #[.iface T2 (ptr b2), .int .i32 (L j)] 30)).cell? ⟨wr.heap.size, 3, none⟩ = some (.int .i32 x) := by rw [World.cell?_alloc_lt _ _ _ (show wr.heap.size < W2.heap.size by omega), cell_of_row W2 _ 3 _ _ _ m12]; rfl
                have f13 : (W2.alloc (.cells #[.iface T2 (ptr b2), .int .i32 (L j)] 30)).heap[W2.heap.size]? = some (.cells #[.iface T2 (ptr b2), .int .i32 (L j)] 30 (0, 0)) := heap_alloc_new _ _
                have f10 : (W2.alloc (.cells #[.iface T2 (ptr b2), .int .i32 (L j)] 30)).heap[w.heap.size + 2]? = some (.cells #[dv, .int .i32 lv] 30 (0, 0)) := (Below.heap_alloc _ _ _ (by omega)).trans m10
                have HT3 := Lib.hid (HT2.out.alloc (.cells #[.iface T2 (ptr b2), .int .i32 (L j)] 30))
                have H3 := Lib.hid (H2.alloc (.cells #[.iface T2 (ptr b2), .int .i32 (L j)] 30))
                have O3 := Lib.hid (World.ownsRowF.alloc O2 (.cells #[.iface T2 (ptr b2), .int .i32 (L j)] 30))
                have hz3 : (W2.alloc (.cells #[.iface T2 (ptr b2), .int .i32 (L j)] 30)).heap.size = W2.heap.size + 1 := by simp
                clear k0 k1 k2 k4 Tc2 m12 m10 hFT H2 O2 HT2
                generalize (W2.alloc (.cells #[.iface T2 (ptr b2), .int .i32 (L j)] 30)) = W3 at *
                generalize W2.heap.size = x13 at *
                have q10 : W3.cell? ⟨w.heap.size + 2, 0, none⟩ = some dv := by rw [cell_of_row W3 _ 0 _ _ _ f10]; rfl
                have q11 : W3.cell? ⟨w.heap.size + 2, 1, none⟩ = some (.int .i32 lv) := by rw [cell_of_row W3 _ 1 _ _ _ f10]; rfl
                have q13 : W3.cell? ⟨x13, 0, none⟩ = some (.iface T2 (ptr b2)) := by rw [cell_of_row W3 _ 0 _ _ _ f13]; rfl
                have q14 : W3.cell? ⟨x13, 1, none⟩ = some (.int .i32 (L j)) := by rw [cell_of_row W3 _ 1 _ _ _ f13]; rfl
                have F10 := Lib.hid f10
                clear f10 f13
                go_upto_region 15 with fail
                go_region_with (first
                  | (go_at_call 45; refine (assign45 _ _ _ _ _).mono ?_; rintro _ W4 ⟨⟨d4, rfl, T4, b4, rfl⟩, hb4⟩; have hz4 := hb4.size; rw [heap_drew] at hb4 hz4; have f4 := (hb4.block (w.heap.size + 2) (by omega)).trans F10.out; have q40 : W4.cell? ⟨w.heap.size + 2, 0, none⟩ = some dv := by { rw [cell_of_row W4 _ 0 _ _ _ f4]; rfl }; have q41 : W4.cell? ⟨w.heap.size + 2, 1, none⟩ = some (.int .i32 lv) := by { rw [cell_of_row W4 _ 1 _ _ _ f4]; rfl }; have F4 := Lib.hid f4; have HB4 := Lib.hid hb4; clear f4 hb4)
                  | (go_at_call 44; refine (joinX _ (cb m has j) _ _ _ _ HLP.out.dvs ⟨_, _, rfl⟩).mono ?_; rintro _ W5 ⟨l5, ⟨d5, rfl, T5, b5, rfl⟩, hb5⟩; have hz5 := hb5.size; have f5 := (hb5.block (w.heap.size + 2) (by omega)).trans F4.out; have q50 : W5.cell? ⟨w.heap.size + 2, 0, none⟩ = some dv := by { rw [cell_of_row W5 _ 0 _ _ _ f5]; rfl }; have q51 : W5.cell? ⟨w.heap.size + 2, 1, none⟩ = some (.int .i32 lv) := by { rw [cell_of_row W5 _ 1 _ _ _ f5]; rfl }; have z50 : W5.frozen? ⟨w.heap.size + 2, 0, none⟩ = false := frozen_of_row W5 _ 0 _ _ f5; have z51 : W5.frozen? ⟨w.heap.size + 2, 1, none⟩ = false := frozen_of_row W5 _ 1 _ _ f5; have HB5 := Lib.hid hb5; clear f5 hb5))
                all_goals
                  have ht45 : ch.Touch (fun _ => False) W3 W5 := (((ch.Touch.refl _ _).drew.trans (ch.Touch.of_below HB4.out (fun _ => False))).trans (ch.Touch.of_below HB5.out (fun _ => False)))
                  have HLN := Lib.hid (HLP.out.set (W := W5) (d := .iface T5 (ptr b5)) (l := l5) (H3.out.touch ht45 id id) (Own.of_block O3.out fun b hb => ht45.block b (World.ownsRowF.lt O3.out b hb).2 id) (glue HT3.out ht45 (fun _ _ h => h.elim)) (by simp [cb, hh]) ⟨_, _, rfl⟩)
                  clear q10 q11 q13 q14 q40 q41 q50 q51 z50 z51 e12 e13 ht45
                  go_wp2_with fail
                  go_roundw
                  case rel => exact ⟨j + 1, _, _, _, by go_num, by omega, HLN.out⟩
                  case measure => simp [intOf]; omega
              | false =>
                rw [hh] at k3
                obtain rfl : v = .nilIface := by simpa using k3
                clear k3
                go_upto_region 14 with (go_at_call 43; refine (conv43 w1.heap.size _ p s n 2 cur c depth rv j (recs L R j) w.heap.size (bi j) (L j) (R j) (HLP.out.st.alloc _) (HLP.out.own.alloc _) (by omega) hn hRj (by simp; omega) HP.out.1 HP.out.2.1 (by omega) (by omega) ((World.cell?_alloc_lt _ _ _ (show w.heap.size < wr.heap.size by omega)).trans C7.out) (by omega) ((World.cell?_alloc_lt _ _ _ (show bi j < wr.heap.size by omega)).trans HBX.out.1) ((World.cell?_alloc_lt _ _ _ (show bi j < wr.heap.size by omega)).trans HBX.out.2)).mono ?_; rintro _ W2 ⟨d2, rv2, rfl, ⟨T2, b2, rfl⟩, H2, O2, Tc2⟩)
                have hFT : ∀ b, w.heap.size ≤ b → b < w1.heap.size ∨ wr.heap.size ≤ b → ¬ (b = p ∨ b = s ∨ rv.ownBlock = some b) := by
                  rintro b h1 h2 (h | h | h)
                  · omega
                  · omega
                  · rcases h2 with h2 | h2
                    · exact HLP.out.own.far h2 h
                    · exact HLP.out.own.past h2 h
                have m12 : W2.heap[wr.heap.size]? = some (.cells #[.iface 215 (ptr (bi j)), .int .i32 (L j), .nilIface, .int .i32 x] 223 (0, 0)) := (Tc2.block wr.heap.size (by simp) (hFT _ (by omega) (.inr (by omega)))).trans (heap_alloc_new _ _)
                have m10 : W2.heap[w.heap.size + 2]? = some (.cells #[dv, .int .i32 lv] 30 (0, 0)) := (Tc2.block (w.heap.size + 2) (by simp; omega) (hFT _ (by omega) (.inl (by omega)))).trans ((Below.heap_alloc _ _ _ (by omega)).trans HLP.out.box)
                have hz2 := Tc2.size
                rw [show (wr.alloc (.cells #[.iface 215 (ptr (bi j)), .int .i32 (L j), .nilIface, .int .i32 x] 223)).heap.size = wr.heap.size + 1 by simp] at hz2
                have HT2 := Lib.hid (glue ((ch.Touch.refl (fun b => b = p ∨ b = s ∨ rv.ownBlock = some b) wr).alloc (.cells #[.iface 215 (ptr (bi j)), .int .i32 (L j), .nilIface, .int .i32 x] 223)) Tc2 (fun _ _ h => h))
                have e12 : (W2.alloc (.cells #[.iface T2 (ptr b2), .int .i32 (L j)] 30)).cell? ⟨wr.heap.size, 2, none⟩ = some (.nilIface) := by rw [World.cell?_alloc_lt _ _ _ (show wr.heap.size < W2.heap.size by omega), cell_of_row W2 _ 2 _ _ _ m12]; rfl
                have e13 : (W2.alloc (.cells #[.iface T2 (ptr b2), .int .i32 (L j)] 30)).cell? ⟨wr.heap.size, 3, none⟩ = some (.int .i32 x) := by rw [World.cell?_alloc_lt _ _ _ (show wr.heap.size < W2.heap.size by omega), cell_of_row W2 _ 3 _ _ _ m12]; rfl
                have f13 : (W2.alloc (.cells #[.iface T2 (ptr b2), .int .i32 (L j)] 30)).heap[W2.heap.size]? = some (.cells #[.iface T2 (ptr b2), .int .i32 (L j)] 30 (0, 0)) := heap_alloc_new _ _
                have f10 : (W2.alloc (.cells #[.iface T2 (ptr b2), .int .i32 (L j)] 30)).heap[w.heap.size + 2]? = some (.cells #[dv, .int .i32 lv] 30 (0, 0)) := (Below.heap_alloc _ _ _ (by omega)).trans m10
                have HT3 := Lib.hid (HT2.out.alloc (.cells #[.iface T2 (ptr b2), .int .i32 (L j)] 30))
                have H3 := Lib.hid (H2.alloc (.cells #[.iface T2 (ptr b2), .int .i32 (L j)] 30))
                have O3 := Lib.hid (World.ownsRowF.alloc O2 (.cells #[.iface T2 (ptr b2), .int .i32 (L j)] 30))
                have hz3 : (W2.alloc (.cells #[.iface T2 (ptr b2), .int .i32 (L j)] 30)).heap.size = W2.heap.size + 1 := by simp
                clear k0 k1 k2 k4 Tc2 m12 m10 hFT H2 O2 HT2
                generalize (W2.alloc (.cells #[.iface T2 (ptr b2), .int .i32 (L j)] 30)) = W3 at *
                generalize W2.heap.size = x13 at *
                have q10 : W3.cell? ⟨w.heap.size + 2, 0, none⟩ = some dv := by rw [cell_of_row W3 _ 0 _ _ _ f10]; rfl
                have q11 : W3.cell? ⟨w.heap.size + 2, 1, none⟩ = some (.int .i32 lv) := by rw [cell_of_row W3 _ 1 _ _ _ f10]; rfl
                have q13 : W3.cell? ⟨x13, 0, none⟩ = some (.iface T2 (ptr b2)) := by rw [cell_of_row W3 _ 0 _ _ _ f13]; rfl
                have q14 : W3.cell? ⟨x13, 1, none⟩ = some (.int .i32 (L j)) := by rw [cell_of_row W3 _ 1 _ _ _ f13]; rfl
                have F10 := Lib.hid f10
                clear f10 f13
                cases m with
                | true =>
                  go_upto_region 18 with (go_at_call 44; refine (joinX _ (cb true has j) _ _ _ _ HLP.out.dvs ⟨_, _, rfl⟩).mono ?_; rintro _ W5 ⟨l5, ⟨d5, rfl, T5, b5, rfl⟩, hb5⟩; have hz5 := hb5.size; have f5 := (hb5.block (w.heap.size + 2) (by omega)).trans F10.out; have q50 : W5.cell? ⟨w.heap.size + 2, 0, none⟩ = some dv := by { rw [cell_of_row W5 _ 0 _ _ _ f5]; rfl }; have q51 : W5.cell? ⟨w.heap.size + 2, 1, none⟩ = some (.int .i32 lv) := by { rw [cell_of_row W5 _ 1 _ _ _ f5]; rfl }; have z50 : W5.frozen? ⟨w.heap.size + 2, 0, none⟩ = false := frozen_of_row W5 _ 0 _ _ f5; have z51 : W5.frozen? ⟨w.heap.size + 2, 1, none⟩ = false := frozen_of_row W5 _ 1 _ _ f5; have HB5 := Lib.hid hb5; clear f5 hb5)
                  have ht5 : ch.Touch (fun _ => False) W3 W5 := ch.Touch.of_below HB5.out (fun _ => False)
                  have HLN := Lib.hid (HLP.out.set (W := W5) (d := .iface T5 (ptr b5)) (l := l5) (H3.out.touch ht5 id id) (Own.of_block O3.out fun b hb => ht5.block b (World.ownsRowF.lt O3.out b hb).2 id) (glue HT3.out ht5 (fun _ _ h => h.elim)) (by simp [cb]) ⟨_, _, rfl⟩)
                  clear q10 q11 q13 q14 q50 q51 z50 z51 e12 e13 ht5
                  go_wp2_with fail
                  go_roundw
                  case rel => exact ⟨j + 1, _, _, _, by go_num, by omega, HLN.out⟩
                  case measure => simp [intOf]; omega
                | false =>
                  have HLN := Lib.hid (HLP.out.stay (W := W3) H3.out O3.out HT3.out (by simp [cb, hh]))
                  go_wp2_with fail
                  go_roundw
                  case rel => exact ⟨j + 1, _, _, _, by go_num, by omega, HLN.out⟩
                  case measure => simp [intOf]; omega
            · obtain rfl : j = n := by omega
              have hw1s := HLP.out.touch.size
              have G6r := (HLP.out.touch.block (w.heap.size + 1) (by omega) (by rintro (h | h | h) <;> omega)).trans G61.out
              have q0 : wr.cell? ⟨w.heap.size + 1, 0, none⟩ = some .nilIface := by rw [cell_of_row wr _ 0 _ _ _ G6r]; rfl
              have q1 : wr.cell? ⟨w.heap.size + 1, 1, none⟩ = some (.int .i32 0) := by rw [cell_of_row wr _ 1 _ _ _ G6r]; rfl
              have y0 : wr.frozen? ⟨w.heap.size + 1, 0, none⟩ = false := frozen_of_row wr _ 0 _ _ G6r
              have y1 : wr.frozen? ⟨w.heap.size + 1, 1, none⟩ = false := frozen_of_row wr _ 1 _ _ G6r
              have b0 : wr.cell? ⟨w.heap.size + 2, 0, none⟩ = some dv := by rw [cell_of_row wr _ 0 _ _ _ HLP.out.box]; rfl
              have b1 : wr.cell? ⟨w.heap.size + 2, 1, none⟩ = some (.int .i32 lv) := by rw [cell_of_row wr _ 1 _ _ _ HLP.out.box]; rfl
              have hdv := HLP.out.dvs
              have hl6 : w.heap.size + 1 < wr.heap.size := by omega
              have hl7 : w.heap.size + 2 < wr.heap.size := by omega
              clear G6r hR hbp hn
              cases hcb : cb m has j with
              | true =>
                rw [hcb] at hdv
                obtain ⟨T, bv, rfl⟩ : NN dv := by simpa using hdv
                clear hdv
                have HCB := Lib.hid hcb
                clear hcb
                go_wp2_with fail
                have z0 : (((wr.setCell ⟨w.heap.size + 1, 0, none⟩ (.iface 271 (ptr wr.heap.size))).setCell ⟨w.heap.size + 1, 1, none⟩ (.int .i32 lv)).alloc (.cells #[.iface T (ptr bv), .int .i32 lv, .bool false] 273)).cell? ⟨w.heap.size + 1, 0, none⟩ = some (.iface 271 (ptr wr.heap.size)) := by go_simp
                have z1 : (((wr.setCell ⟨w.heap.size + 1, 0, none⟩ (.iface 271 (ptr wr.heap.size))).setCell ⟨w.heap.size + 1, 1, none⟩ (.int .i32 lv)).alloc (.cells #[.iface T (ptr bv), .int .i32 lv, .bool false] 273)).cell? ⟨w.heap.size + 1, 1, none⟩ = some (.int .i32 lv) := by go_simp
                refine bodyPost_ret (v := .tuple #[.agg #[.iface 271 (ptr wr.heap.size), .int .i32 lv], .bool true]) (by simp [results, Try.results39, go_sem, z0, z1]) rfl (relP_yes HLP.out HT1.out ((((ch.Touch.refl (fun b => b = w.heap.size + 1) wr).setCell ⟨w.heap.size + 1, 0, none⟩ (fun _ => rfl) _).setCell ⟨w.heap.size + 1, 1, none⟩ (fun _ => rfl) _).alloc _) rfl hs1 hpl hsl _ _ (by rw [HCB.out, if_pos rfl]; exact ⟨_, _, rfl⟩))
              | false =>
                rw [hcb] at hdv
                obtain rfl : dv = .nilIface := by simpa using hdv
                clear hdv
                have HCB := Lib.hid hcb
                clear hcb
                go_wp2_with fail
                have z0 : ((wr.setCell ⟨w.heap.size + 1, 0, none⟩ .nilIface).setCell ⟨w.heap.size + 1, 1, none⟩ (.int .i32 0)).cell? ⟨w.heap.size + 1, 0, none⟩ = some .nilIface := by go_simp
                have z1 : ((wr.setCell ⟨w.heap.size + 1, 0, none⟩ .nilIface).setCell ⟨w.heap.size + 1, 1, none⟩ (.int .i32 0)).cell? ⟨w.heap.size + 1, 1, none⟩ = some (.int .i32 0) := by go_simp
                refine bodyPost_ret (v := .tuple #[.agg #[.nilIface, .int .i32 0], .bool true]) (by simp [results, Try.results39, go_sem, z0, z1]) rfl (relP_yes HLP.out HT1.out (((ch.Touch.refl (fun b => b = w.heap.size + 1) wr).setCell ⟨w.heap.size + 1, 0, none⟩ (fun _ => rfl) _).setCell ⟨w.heap.size + 1, 1, none⟩ (fun _ => rfl) _) rfl hs1 hpl hsl _ _ (by rw [HCB.out]; simp))
        | succ k =>
          obtain ⟨h1, h2, h3, c', h4, h5, h6⟩ := hsc
          cases hf : f k with
          | true =>
            have hokf : ok = false := by
              cases ok with
              | false => rfl
              | true => have := (HOK.out.1 rfl).2.2 k (by omega); rw [hf] at this; cases this
            subst hokf
            have e5 := neO W0 c mod (by omega) h3 h6.root
            rw [hf] at h2
            simp only [if_true] at h2
            clear hfk hf h6 h3
            have q0 : W0.cell? ⟨w.heap.size + 1, 0, none⟩ = some .nilIface := by rw [cell_of_row W0 _ 0 _ _ _ G6.out]; rfl
            have q1 : W0.cell? ⟨w.heap.size + 1, 1, none⟩ = some (.int .i32 0) := by rw [cell_of_row W0 _ 1 _ _ _ G6.out]; rfl
            have y0 : W0.frozen? ⟨w.heap.size + 1, 0, none⟩ = false := frozen_of_row W0 _ 0 _ _ G6.out
            have y1 : W0.frozen? ⟨w.heap.size + 1, 1, none⟩ = false := frozen_of_row W0 _ 1 _ _ G6.out
            go_wp2_with (go_at_call 40; refine (stops40 _ 8 true rfl).mono ?_; rintro _ _ ⟨rfl, rfl⟩)
            have z0 : ((W0.setCell ⟨w.heap.size + 1, 0, none⟩ .nilIface).setCell ⟨w.heap.size + 1, 1, none⟩ (.int .i32 0)).cell? ⟨w.heap.size + 1, 0, none⟩ = some .nilIface := by go_simp
            have z1 : ((W0.setCell ⟨w.heap.size + 1, 0, none⟩ .nilIface).setCell ⟨w.heap.size + 1, 1, none⟩ (.int .i32 0)).cell? ⟨w.heap.size + 1, 1, none⟩ = some (.int .i32 0) := by go_simp
            have hx : ¬ w.heap.size + 1 < w.heap.size := by omega
            refine bodyPost_ret (v := .tuple #[.agg #[.nilIface, .int .i32 0], .bool false]) (by simp [results, Try.results39, go_sem, z0, z1]) rfl (relP_no R L has m HH.out ((HT0.out.setCell ⟨w.heap.size + 1, 0, none⟩ (fun h => absurd h hx) _).setCell ⟨w.heap.size + 1, 1, none⟩ (fun h => absurd h hx) _))
          | false =>
            have hfk2 : ∀ j, k ≤ j → j < nc → f j = false := fun j hj hn => by
              by_cases e : j = k
              · subst e; exact hf
              · exact hfk j (by omega) hn
            have HF := Lib.hid hfk2
            have H6 := Lib.hid h6
            rw [hf] at h2
            simp only [Bool.false_eq_true, if_false] at h2
            clear hfk hfk2 hf h6 h3
            go_wp2_with (go_at_call 40; refine (stops40 _ 0 false rfl).mono ?_; rintro _ _ ⟨rfl, rfl⟩)
            go_roundw
            case rel => exact ⟨k, c', rfl, by first | rfl | trivial, H6.out, by omega, by omega, HF.out⟩
            case measure => exact h4
  · have hokf : ok = false := by
      cases ok with
      | false => rfl
      | true => exact absurd ⟨(hok.1 rfl).1, (hok.1 rfl).2.1⟩ hbad
    subst hokf
    clear hok
    go_cut [38] (fun c wx => c = .bool true ∧ wx = ((w.alloc (.cells #[ptr p] 60)).alloc (.cells #[.nilIface, .int .i32 0] 67)).drew)
    case first =>
      by_cases h2 : mode = 2
      · subst h2
        have hz : nc = 0 ∧ depth = 0 := Classical.not_not.1 fun h => hbad ⟨rfl, h⟩
        obtain ⟨rfl, rfl⟩ := hz
        obtain rfl : cur = mod := hS.1
        have e2 := eqS (((w.alloc (.cells #[ptr p] 60)).alloc (.cells #[.nilIface, .int .i32 0] 67)).drew) cur
        clear hbad
        go_region
        all_goals
          go_wp2_with fail
          go_meet
          exact ⟨rfl, rfl⟩
      · have e1 : (mode != 2) = true := by simp [h2]
        clear hbad
        go_region
        all_goals
          go_wp2_with fail
          go_meet
          exact ⟨rfl, rfl⟩
    case rest =>
      obtain ⟨rfl, rfl⟩ := hcut
      go_wp2_with fail
      refine bodyPost_ret (v := .tuple #[.agg #[.nilIface, .int .i32 0], .bool false]) (by simp [results, Try.results39, go_sem]) rfl (relP_no R L has m H ((((ch.Touch.refl _ _).alloc _).alloc _).drew))
end
end Go.Proofs.Ythhlioepgfjknaa.rl
