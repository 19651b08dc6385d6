/-
  Chains of expressions: what the law holds.
-/
import Derived.Test.YtomgcoggplaklaaNp
namespace Go.Proofs.Ytomgcoggplaklaa.ch
open Go.ChangeShapes Go.WideShapes Go.ChangeAt Go.RowKit Go.Deep Go.Proofs.Ytomgcoggplaklaa.mk
set_option linter.unusedVariables false
set_option linter.unusedSimpArgs false

def ByP (w : World) (n sn : Nat) (e : Ending) (w' : World) : Prop := w' = w ∧ (e = .returned (.bool false) ∨ (e = .returned (.bool true) ∧ n ≤ 1048576 ∧ sn ≤ 1048576))
theorem bytes4 (w : World) (a : Option Addr) (n cap : Nat) (k : Int) (a2 : Option Addr) (sn cap2 : Nat) (b3 b4 b5 b6 : Bool) (pc : Int) :
    Calls Try.prog 4 #[.slice a n cap, .int .i64 k, .slice a2 sn cap2, .bool b3, .bool b4, .bool b5, .bool b6, .int .u32 pc] w (ByP w n sn) := by
  by_cases h : n ≤ 1048576
  · by_cases h2 : sn ≤ 1048576
    · go_enter Try.func4, Try.ntmps4
      go_wp2
      all_goals
        go_ret
        first | exact ⟨rfl, .inl rfl⟩ | exact ⟨rfl, .inr ⟨rfl, h, h2⟩⟩
    · go_enter Try.func4, Try.ntmps4
      go_wp2
      all_goals
        go_ret
        exact ⟨rfl, .inl rfl⟩
  · go_enter Try.func4, Try.ntmps4
    go_wp2
    all_goals
      go_ret
      exact ⟨rfl, .inl rfl⟩
/-- What the law holds beside the parser: the symbols' counts, the two references. -/
structure Bs (w0 w : World) (SB n k TB OB : Nat) (U : Nat → Int) : Prop where
  col : ∀ i, i < n → w.cell? ⟨SB, i * 10 + 4, none⟩ = some (.int .u32 (U i))
  frz : ∀ o, w.frozen? ⟨SB, o, none⟩ = false
  t0 : w.cell? ⟨TB, 0, none⟩ = some (.int .u32 0)
  t1 : w.cell? ⟨TB, 1, none⟩ = some (.int .u32 k)
  o0 : w.cell? ⟨OB, 0, none⟩ = some (.int .u32 7)
  o1 : w.cell? ⟨OB, 1, none⟩ = some (.int .u32 k)
  s0 : w0.heap.size ≤ SB
  s1 : SB < TB
  s2 : TB < OB
  s3 : OB < w.heap.size
  bel : Below w0.heap.size w0 w
theorem Bs.keep {w0 w w' : World} {SB n k TB OB : Nat} {U : Nat → Int} (h : Bs w0 w SB n k TB OB U) (hs : w.heap.size ≤ w'.heap.size) (e : ∀ b, b ≤ OB → w'.heap[b]? = w.heap[b]?) (hb : Below w0.heap.size w w') : Bs w0 w' SB n k TB OB U := by
  have h1 := h.s1; have h2 := h.s2
  have c : ∀ q j, q ≤ OB → w'.cell? ⟨q, j, none⟩ = w.cell? ⟨q, j, none⟩ := fun q j hq => World.cell?_of_block (a := ⟨q, j, none⟩) (e q hq)
  have f : ∀ q j, q ≤ OB → w'.frozen? ⟨q, j, none⟩ = w.frozen? ⟨q, j, none⟩ := fun q j hq => World.frozen?_of_block (a := ⟨q, j, none⟩) (e q hq)
  exact ⟨fun i hi => (c _ _ (by omega)).trans (h.col i hi), fun o => (f _ _ (by omega)).trans (h.frz o), (c _ _ (by omega)).trans h.t0, (c _ _ (by omega)).trans h.t1, (c _ _ (Nat.le_refl _)).trans h.o0, (c _ _ (Nat.le_refl _)).trans h.o1, h.s0, h.s1, h.s2, Nat.lt_of_lt_of_le h.s3 hs, h.bel.trans hb⟩
theorem Bs.below {w0 w w' : World} {SB n k TB OB : Nat} {U : Nat → Int} (h : Bs w0 w SB n k TB OB U) (hb : Below w.heap.size w w') : Bs w0 w' SB n k TB OB U :=
  h.keep hb.size (fun b hbb => hb.block b (by have := h.s3; omega)) (hb.mono h.bel.size)
theorem Bs.only {w0 w w' : World} {SB n k TB OB MB : Nat} {U : Nat → Int} (h : Bs w0 w SB n k TB OB U) (hm : OB < MB) (ho : OnlyB MB w w') : Bs w0 w' SB n k TB OB U :=
  h.keep (by rw [ho.size]; exact Nat.le_refl _) (fun b hbb => ho.block b (by omega)) (ho.below (by have := h.s0; have := h.s1; have := h.s2; omega))
theorem Bs.start {w0 w : World} {SB n k : Nat} {U : Nat → Int} (hcol : ∀ i, i < n → w.cell? ⟨SB, i * 10 + 4, none⟩ = some (.int .u32 (U i))) (hfrz : ∀ o, w.frozen? ⟨SB, o, none⟩ = false) (h0 : w0.heap.size ≤ SB) (h1 : SB < w.heap.size) (hb : Below w0.heap.size w0 w) :
    Bs w0 ((w.alloc (.cells #[.int .u32 0, .int .u32 k] 29)).alloc (.cells #[.int .u32 7, .int .u32 k] 29)) SB n k w.heap.size (w.heap.size + 1) U := by
  have hbb : Below w.heap.size w ((w.alloc (.cells #[.int .u32 0, .int .u32 k] 29)).alloc (.cells #[.int .u32 7, .int .u32 k] 29)) := ((Below.refl _ _).alloc (Nat.le_refl _) _).alloc (by simp) _
  have s1 : (w.alloc (.cells #[.int .u32 0, .int .u32 k] 29)).heap.size = w.heap.size + 1 := by simp
  have b1 : ((w.alloc (.cells #[.int .u32 0, .int .u32 k] 29)).alloc (.cells #[.int .u32 7, .int .u32 k] 29)).heap[w.heap.size]? = some (.cells #[.int .u32 0, .int .u32 k] 29 (0, 0)) := by
    rw [Below.heap_alloc _ _ _ (by omega)]; exact heap_alloc_new w _
  have b2 : ((w.alloc (.cells #[.int .u32 0, .int .u32 k] 29)).alloc (.cells #[.int .u32 7, .int .u32 k] 29)).heap[w.heap.size + 1]? = some (.cells #[.int .u32 7, .int .u32 k] 29 (0, 0)) := by
    rw [← s1]; exact heap_alloc_new _ _
  exact ⟨fun i hi => (hbb.cell (p := ⟨SB, i * 10 + 4, none⟩) h1).trans (hcol i hi), fun o => (hbb.frozen (p := ⟨SB, o, none⟩) h1).trans (hfrz o), cell_of_row _ _ 0 _ _ _ b1, cell_of_row _ _ 1 _ _ _ b1, cell_of_row _ _ 0 _ _ _ b2, cell_of_row _ _ 1 _ _ _ b2, h0, h1, by omega, by simp, hb.trans (hbb.mono hb.size)⟩
def v5 : Value := .agg #[.int .u32 5]
noncomputable def M1 (k : Nat) : Value → Option Value := upd (fun _ => none) (ref 7 k) v5
noncomputable def M2 (k : Nat) (pc : Int) : Value → Option Value := upd (M1 k) (ref 0 k) (.agg #[.int .u32 pc])
theorem ref_ne (k : Nat) : ref 0 k ≠ ref 7 k := by simp [ref]
theorem M1_other (k : Nat) : M1 k (ref 7 k) = some v5 := upd_same _ _ _
theorem M1_target (k : Nat) : M1 k (ref 0 k) = none := upd_other _ _ (ref_ne k)
theorem M2_other (k : Nat) (pc : Int) : M2 k pc (ref 7 k) = some v5 := (upd_other _ _ (ref_ne k).symm).trans (M1_other k)
theorem M2_target (k : Nat) (pc : Int) : M2 k pc (ref 0 k) = some (.agg #[.int .u32 pc]) := upd_same _ _ _
theorem counts1 (k : Nat) : Counts (M1 k) := by
  intro q v h
  unfold M1 upd at h
  split at h
  · cases h; exact ⟨5, rfl⟩
  · cases h
theorem counts2 (k : Nat) (pc : Int) : Counts (M2 k pc) := by
  intro q v h
  unfold M2 upd at h
  split at h
  · cases h; exact ⟨pc, rfl⟩
  · exact counts1 k q v h
/-- The parser and what the law holds beside it. -/
def Al (w0 w : World) (g SB n k TB OB : Nat) (dead : Bool) (pt : Option (Nat × Nat)) (U : Nat → Int) (m : Nat) (M : Value → Option Value) : Prop :=
  Ps w g SB n dead pt U m M ∧ Bs w0 w SB n k TB OB U ∧ OB < g ∧ ∀ p, pt = some p → OB < p.1 ∧ OB < p.2
theorem Al.mk0 {w0 w2 wP : World} {SB n k TB OB : Nat} {dead : Bool} {U : Nat → Int} {e : Ending} (hB : Bs w0 w2 SB n k TB OB U) (hN : NewP w2 (some ⟨SB, 0, none⟩) n n none dead e wP) : ∃ g, e = .returned (.pointer (some ⟨g, 0, none⟩)) ∧ Al w0 wP g SB n k TB OB dead none U 0 (fun _ => none) := by
  obtain ⟨g, he, hg, c1, c2, c3, hb⟩ := hN
  have hB2 := hB.below hb
  have h1 := hB.s1; have h2 := hB.s2; have h3 := hB.s3
  exact ⟨g, he, ⟨c1, c2, c3, hB2.col, hB2.frz, fun p hp => (by cases hp), by omega, by have := hB2.s3; omega⟩, hB2, by omega, fun p hp => (by cases hp)⟩
theorem Al.mk1 {w0 w2 wP : World} {SB n k TB OB PB MB m : Nat} {dead : Bool} {U : Nat → Int} {M : Value → Option Value} {e : Ending} (hB : Bs w0 w2 SB n k TB OB U) (hc : w2.cell? ⟨PB, 4, none⟩ = some (.map (some MB))) (hM : MapIs w2 MB RefKey m M) (h4 : OB < PB) (h5 : OB < MB) (h6 : MB ≠ PB) (hN : NewP w2 (some ⟨SB, 0, none⟩) n n (some ⟨PB, 0, none⟩) dead e wP) : ∃ g, e = .returned (.pointer (some ⟨g, 0, none⟩)) ∧ Al w0 wP g SB n k TB OB dead (some (PB, MB)) U m M := by
  obtain ⟨g, he, hg, c1, c2, c3, hb⟩ := hN
  have hB2 := hB.below hb
  have h1 := hB.s1; have h2 := hB.s2; have h3 := hB.s3
  have hPl : PB < w2.heap.size := block_lt_of_cell hc
  have hMl : MB < w2.heap.size := hM.lt
  refine ⟨g, he, ⟨c1, c2, c3, hB2.col, hB2.frz, fun p hp => ?_, by omega, by have := hB2.s3; omega⟩, hB2, by omega, fun p hp => ?_⟩
  · cases hp
    exact ⟨(hb.cell (p := ⟨PB, 4, none⟩) hPl).trans hc, hM.of_block (hb.block MB hMl), by show MB ≠ g; omega, by show MB ≠ SB; omega, by show PB ≠ SB; omega, h6⟩
  · cases hp; exact ⟨h4, h5⟩
theorem Al.keep {w0 w w' : World} {g SB n k TB OB E : Nat} {dead : Bool} {pt : Option (Nat × Nat)} {U : Nat → Int} {m : Nat} {M : Value → Option Value} (h : Al w0 w g SB n k TB OB dead pt U m M) (hE : g < E ∧ ∀ p, pt = some p → p.1 < E ∧ p.2 < E) (hb : Below E w w') : Al w0 w' g SB n k TB OB dead pt U m M := by
  obtain ⟨h1, h2, h3, h4⟩ := h
  have g1 := h2.s0; have g2 := h2.s1; have g3 := h2.s2
  refine ⟨h1.keep hb.size (fun b _ hx => hb.block b ?_), h2.keep hb.size (fun b hbb => hb.block b (by omega)) (hb.mono (by omega)), h3, h4⟩
  rcases hx with rfl | rfl | ⟨p, hp, hx⟩
  · exact hE.1
  · omega
  · have := hE.2 p hp; omega
theorem Al.lts {w0 w : World} {g SB n k TB OB : Nat} {dead : Bool} {pt : Option (Nat × Nat)} {U : Nat → Int} {m : Nat} {M : Value → Option Value} (h : Al w0 w g SB n k TB OB dead pt U m M) : g < w.heap.size ∧ ∀ p, pt = some p → p.1 < w.heap.size ∧ p.2 < w.heap.size :=
  ⟨h.1.ltg, fun p hp => by obtain ⟨a, b, _⟩ := h.1.mp p hp; exact ⟨block_lt_of_cell a, b.lt⟩⟩
/-- The chain built so far, in the law's variable at block E. -/
def Lo (w0 wr : World) (g SB n k TB OB : Nat) (dead : Bool) (pt : Option (Nat × Nat)) (U : Nat → Int) (m : Nat) (M : Value → Option Value) (E : Nat) (hit : Bool) (T b : Nat) : Prop :=
  Al w0 wr g SB n k TB OB dead pt U m M ∧ wr.heap[E]? = some (.cells #[.iface T (.pointer (some ⟨b, 0, none⟩)), .int .i32 0] 49 (0, 0)) ∧ Ch wr (E + 1) k hit T b ∧ E + 1 ≤ wr.heap.size
theorem Lo.next {w0 wr w5 : World} {g SB n k TB OB E T' : Nat} {dead hit' : Bool} {pt : Option (Nat × Nat)} {U : Nat → Int} {m : Nat} {M : Value → Option Value} {e : Ending} {v0 l0 : Value} (hA : Al w0 wr g SB n k TB OB dead pt U m M) (hbx : wr.heap[E]? = some (.cells #[v0, l0] 49 (0, 0))) (hE : g < E ∧ ∀ p, pt = some p → p.1 < E ∧ p.2 < E) (hN : NodeP wr (E + 1) k hit' T' e w5) :
    ∃ b, e = .returned (.agg #[.iface T' (.pointer (some ⟨b, 0, none⟩)), .int .i32 0]) ∧ w5.cell? ⟨E, 0, none⟩ = some v0 ∧ w5.cell? ⟨E, 1, none⟩ = some l0 ∧ w5.frozen? ⟨E, 0, none⟩ = false ∧ w5.frozen? ⟨E, 1, none⟩ = false ∧
      Lo w0 ((w5.setCell ⟨E, 0, none⟩ (.iface T' (.pointer (some ⟨b, 0, none⟩)))).setCell ⟨E, 1, none⟩ (.int .i32 0)) g SB n k TB OB dead pt U m M E hit' T' b := by
  obtain ⟨b, he, hc, hb⟩ := hN
  have hEl : E < wr.heap.size := lt_of_block hbx
  have hb5 : w5.heap[E]? = some (.cells #[v0, l0] 49 (0, 0)) := (hb.block E hEl).trans hbx
  have hk := box_keep w5 E (.iface T' (.pointer (some ⟨b, 0, none⟩))) (.int .i32 0)
  refine ⟨b, he, cell_of_row _ _ 0 _ _ _ hb5, cell_of_row _ _ 1 _ _ _ hb5, frozen_of_row _ _ _ _ _ hb5, frozen_of_row _ _ _ _ _ hb5, ?_, box_set hb5, hc.keep hk.1 (fun q hq _ => hk.2 q (by omega)), Nat.le_trans (by have := hb.size; omega) hk.1⟩
  refine hA.keep hE ((hb.mono (by omega)).trans ⟨rfl, rfl, rfl, hk.1, fun q hq => hk.2 q (by omega)⟩)
/-- When the chain has been looked at. -/
structure Fi (w0 w : World) (g SB n k TB OB : Nat) (dead : Bool) (pt : Option (Nat × Nat)) (U : Nat → Int) (m : Nat) (M : Value → Option Value) : Prop where
  ps : Ps w g SB n dead pt U m M
  t0 : w.cell? ⟨TB, 0, none⟩ = some (.int .u32 0)
  t1 : w.cell? ⟨TB, 1, none⟩ = some (.int .u32 k)
  o0 : w.cell? ⟨OB, 0, none⟩ = some (.int .u32 7)
  o1 : w.cell? ⟨OB, 1, none⟩ = some (.int .u32 k)
  bel : Below w0.heap.size w0 w
theorem Fi.of {w0 wr w : World} {g SB n k TB OB : Nat} {dead : Bool} {pt : Option (Nat × Nat)} {U U' : Nat → Int} {m m' : Nat} {M M' : Value → Option Value} {e : Ending} (hA : Al w0 wr g SB n k TB OB dead pt U m M) (hI : IgP wr g SB n dead pt U' m' M' e w) : Fi w0 w g SB n k TB OB dead pt U' m' M' := by
  obtain ⟨_, hP, hT⟩ := hI
  obtain ⟨h1, h2, h3, h4⟩ := hA
  have g1 := h2.s0; have g2 := h2.s1; have g3 := h2.s2; have g4 := h2.s3
  have hne : ∀ q, q ≤ OB → q ≠ SB → ¬ (q = SB ∨ ∃ p, pt = some p ∧ q = p.2) := by
    rintro q hq hn (h | ⟨p, hp, h⟩)
    · exact hn h
    · have := h4 p hp; omega
  have c : ∀ q j, q ≤ OB → q ≠ SB → w.cell? ⟨q, j, none⟩ = wr.cell? ⟨q, j, none⟩ := fun q j hq hn => World.cell?_of_block (a := ⟨q, j, none⟩) (hT.block q (by omega) (hne q hq hn))
  exact ⟨hP, (c _ _ (by omega) (by omega)).trans h2.t0, (c _ _ (by omega) (by omega)).trans h2.t1, (c _ _ (by omega) (by omega)).trans h2.o0, (c _ _ (by omega) (by omega)).trans h2.o1, h2.bel.trans (hT.below h2.bel.size (by
    rintro q (h | ⟨p, hp, h⟩)
    · omega
    · have := h4 p hp; omega))⟩
theorem syms14 (w : World) (g SB n : Nat) (dead : Bool) (pt : Option (Nat × Nat)) (U : Nat → Int) (m : Nat) (M : Value → Option Value) (h : Ps w g SB n dead pt U m M) : Calls Try.prog 14 #[.pointer (some ⟨g, 0, none⟩)] w (fun e w' => e = .returned (.slice (some ⟨SB, 0, none⟩) n n) ∧ w' = w) := by
  have c := h.c106
  clear h
  go_enter Try.func14, Try.ntmps14
  go_wp2
  go_ret
  exact ⟨rfl, rfl⟩
theorem cnt1 (k : Nat) : cntOf (M1 k) (ref 0 k) = 0 := by unfold cntOf; rw [M1_target]
theorem cnt2 (k : Nat) (pc : Int) : cntOf (M2 k pc) (ref 0 k) = pc := by unfold cntOf; rw [M2_target]; rfl
theorem fin_p (k : Nat) : decM (M1 k) k (ref 7 k) = some v5 ∧ decM (M1 k) k (ref 0 k) = some (.agg #[.int .u32 4294967295]) ∧ decm 1 (M1 k) k = 2 := by
  have h : dec (cntOf (M1 k) (ref 0 k)) = 4294967295 := by rw [cnt1]; rfl
  unfold decM decm
  rw [h, if_neg (by omega), if_neg (by omega), M1_target]
  exact ⟨(upd_other _ _ (ref_ne k).symm).trans (M1_other k), upd_same _ _ _, rfl⟩
theorem fin_q0 (k : Nat) (pc : Int) (h : dec pc = 0) : decM (M2 k pc) k (ref 7 k) = some v5 ∧ decM (M2 k pc) k (ref 0 k) = none ∧ decm 2 (M2 k pc) k = 1 := by
  unfold decM decm
  rw [cnt2, if_pos h, if_pos h, M2_target]
  exact ⟨(del_other _ (ref_ne k).symm).trans (M2_other k pc), del_same _ _, rfl⟩
theorem fin_q1 (k : Nat) (pc : Int) (h : ¬ dec pc = 0) : decM (M2 k pc) k (ref 7 k) = some v5 ∧ decM (M2 k pc) k (ref 0 k) = some (.agg #[.int .u32 (dec pc)]) ∧ decm 2 (M2 k pc) k = 2 := by
  unfold decM decm
  rw [cnt2, if_neg h, if_neg h, M2_target]
  exact ⟨(upd_other _ _ (ref_ne k).symm).trans (M2_other k pc), upd_same _ _ _, rfl⟩
/-- The two look-ups at the law's end. -/
theorem look2 {w : World} {MB m : Nat} {M : Value → Option Value} (h : MapIs w MB RefKey m M) (s : Int) (k : Nat) (o : Option Value) (ho : M (ref s k) = o) : (Instr.lookup 31 (.map (some MB)) (.agg #[.int .u32 s, .int .u32 k]) true).run Try.prog w = .ok (.tuple #[o.getD (.agg #[.int .u32 0]), .bool o.isSome]) w := by
  have := h.look (refKey w) Try.underlying31 (zero33 w) (ref_key s k) true
  rw [ho] at this
  exact this
def LawP (w : World) (e : Ending) (w' : World) : Prop := e = .returned (.bool true) ∧ Below w.heap.size w w'
end Go.Proofs.Ytomgcoggplaklaa.ch
