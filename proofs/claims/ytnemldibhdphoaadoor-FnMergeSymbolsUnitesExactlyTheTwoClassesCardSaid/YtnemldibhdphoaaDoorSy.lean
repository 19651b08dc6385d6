/-
  Symbols: the table of links as the parser holds it; setting and reading a link.
-/
import Derived.Test.YtnemldibhdphoaaDoorNs
namespace Go.Proofs.YtnemldibhdphoaaDoor.lk
open Go.ChangeShapes Go.WideShapes Go.ChangeAt Go.RowKit Go.Deep
set_option linter.unusedVariables false
set_option linter.unusedSimpArgs false

def la (o : Option Nat) : Int := match o with | none => 4294967295 | some _ => 0
def lb (o : Option Nat) : Int := match o with | none => 4294967295 | some j => j
/-- The parser's table of symbols: n of them at block B, their links as l says. -/
structure Pr (w : World) (g B n c : Nat) (l : Nat → Option Nat) : Prop where
  inv : Inv w 4294967295 4294967295
  g0 : 0 < g
  gB : g < B
  nc : n ≤ c
  small : n ≤ 65536
  fits : Fits n l
  c106 : w.cell? ⟨g, 106, none⟩ = some (.slice (some ⟨B, 0, none⟩) n c)
  lk0 : ∀ i, i < n → w.cell? ⟨B, i * 10 + 2, none⟩ = some (.int .u32 (la (l i)))
  lk1 : ∀ i, i < n → w.cell? ⟨B, i * 10 + 3, none⟩ = some (.int .u32 (lb (l i)))
  use : ∀ i, i < n → w.cell? ⟨B, i * 10 + 4, none⟩ = some (.int .u32 0)
  flg : ∀ i, i < n → w.cell? ⟨B, i * 10 + 7, none⟩ = some (.int .u16 0)
  frz : ∀ o, w.frozen? ⟨B, o, none⟩ = false
  lt : B < w.heap.size
section
variable {w w' : World} {g B n c : Nat} {l : Nat → Option Nat}
theorem Pr.keep (h : Pr w g B n c l) (hs : w.heap.size ≤ w'.heap.size) (e : ∀ b, b = 0 ∨ b = g ∨ b = B → w'.heap[b]? = w.heap[b]?) : Pr w' g B n c l := by
  have c0 : ∀ j, w'.cell? ⟨0, j, none⟩ = w.cell? ⟨0, j, none⟩ := fun j => World.cell?_of_block (a := ⟨0, j, none⟩) (e 0 (.inl rfl))
  have cg : ∀ j, w'.cell? ⟨g, j, none⟩ = w.cell? ⟨g, j, none⟩ := fun j => World.cell?_of_block (a := ⟨g, j, none⟩) (e g (.inr (.inl rfl)))
  have cB : ∀ j, w'.cell? ⟨B, j, none⟩ = w.cell? ⟨B, j, none⟩ := fun j => World.cell?_of_block (a := ⟨B, j, none⟩) (e B (.inr (.inr rfl)))
  have fB : ∀ j, w'.frozen? ⟨B, j, none⟩ = w.frozen? ⟨B, j, none⟩ := fun j => World.frozen?_of_block (a := ⟨B, j, none⟩) (e B (.inr (.inr rfl)))
  exact ⟨⟨(c0 _).trans h.inv.1, (c0 _).trans h.inv.2⟩, h.g0, h.gB, h.nc, h.small, h.fits, (cg _).trans h.c106, fun i hi => (cB _).trans (h.lk0 i hi), fun i hi => (cB _).trans (h.lk1 i hi), fun i hi => (cB _).trans (h.use i hi), fun i hi => (cB _).trans (h.flg i hi), fun o => (fB _).trans (h.frz o), Nat.lt_of_lt_of_le h.lt hs⟩
theorem Pr.below (h : Pr w g B n c l) (hb : Below w.heap.size w w') : Pr w' g B n c l := by
  have h1 := h.lt; have h2 := h.gB; have h3 := h.g0
  exact h.keep hb.size (fun b hbb => hb.block b (by omega))
theorem Pr.cellOther (h : Pr w g B n c l) (o o' : Nat) (v : Value) (hne : o ≠ o') : (w.setCell ⟨B, o, none⟩ v).cell? ⟨B, o', none⟩ = w.cell? ⟨B, o', none⟩ := World.cell?_setCell_other _ _ _ _ (fun e => hne (by simpa using congrArg Addr.off e))
theorem Pr.far (h : Pr w g B n c l) (o : Nat) (v : Value) : Inv (w.setCell ⟨B, o, none⟩ v) 4294967295 4294967295 ∧ (w.setCell ⟨B, o, none⟩ v).cell? ⟨g, 106, none⟩ = some (.slice (some ⟨B, 0, none⟩) n c) := by
  have h1 := h.gB; have h2 := h.g0
  have e : ∀ b j, b ≠ B → (w.setCell ⟨B, o, none⟩ v).cell? ⟨b, j, none⟩ = w.cell? ⟨b, j, none⟩ := fun b j hb => World.cell?_setCell_other _ _ _ _ (fun e => hb (by simpa using (congrArg Addr.block e).symm))
  exact ⟨⟨(e 0 _ (by omega)).trans h.inv.1, (e 0 _ (by omega)).trans h.inv.2⟩, (e g _ (by omega)).trans h.c106⟩
theorem szSet (w : World) (a : Addr) (v : Value) : (w.setCell a v).heap.size = w.heap.size := by simp [World.setCell]
/-- A use count of nought, stored again. -/
theorem Pr.setUse (h : Pr w g B n c l) {i : Nat} (hi : i < n) : Pr (w.setCell ⟨B, i * 10 + 4, none⟩ (.int .u32 0)) g B n c l := by
  obtain ⟨f1, f2⟩ := h.far (i * 10 + 4) (.int .u32 0)
  refine ⟨f1, h.g0, h.gB, h.nc, h.small, h.fits, f2, fun j hj => (h.cellOther _ _ _ (by omega)).trans (h.lk0 j hj), fun j hj => (h.cellOther _ _ _ (by omega)).trans (h.lk1 j hj), fun j hj => ?_, fun j hj => (h.cellOther _ _ _ (by omega)).trans (h.flg j hj), fun o => (World.frozen?_setCell _ _ _ _).trans (h.frz o), by rw [szSet]; exact h.lt⟩
  by_cases e : j = i
  · subst e; exact World.cell?_setCell_same _ _ _ (h.use j hj)
  · exact (h.cellOther _ _ _ (by omega)).trans (h.use j hj)
/-- A link set. -/
theorem Pr.link (h : Pr w g B n c l) {i x : Nat} (hi : i < n) (hx : x < n) : Pr ((w.setCell ⟨B, i * 10 + 2, none⟩ (.int .u32 0)).setCell ⟨B, i * 10 + 3, none⟩ (.int .u32 x)) g B n c (lk.up l i x) := by
  obtain ⟨f1, f2⟩ := h.far (i * 10 + 2) (.int .u32 0)
  have hg := h.gB; have hg0 := h.g0
  have e : ∀ b j (w : World), b ≠ B → (w.setCell ⟨B, i * 10 + 3, none⟩ (.int .u32 x)).cell? ⟨b, j, none⟩ = w.cell? ⟨b, j, none⟩ := fun b j w hb => World.cell?_setCell_other _ _ _ _ (fun e => hb (by simpa using (congrArg Addr.block e).symm))
  have c1 : ∀ o, o ≠ i * 10 + 2 → (w.setCell ⟨B, i * 10 + 2, none⟩ (.int .u32 0)).cell? ⟨B, o, none⟩ = w.cell? ⟨B, o, none⟩ := fun o ho => h.cellOther _ _ _ (fun e => ho e.symm)
  have c2 : ∀ o (w : World), o ≠ i * 10 + 3 → (w.setCell ⟨B, i * 10 + 3, none⟩ (.int .u32 x)).cell? ⟨B, o, none⟩ = w.cell? ⟨B, o, none⟩ := fun o w ho => World.cell?_setCell_other _ _ _ _ (fun e => ho (by simpa using (congrArg Addr.off e).symm))
  refine ⟨⟨(e 0 _ _ (by omega)).trans f1.1, (e 0 _ _ (by omega)).trans f1.2⟩, hg0, hg, h.nc, h.small, h.fits.up hx, (e g _ _ (by omega)).trans f2, fun j hj => ?_, fun j hj => ?_, fun j hj => ?_, fun j hj => ?_, fun o => ((World.frozen?_setCell _ _ _ _).trans (World.frozen?_setCell _ _ _ _)).trans (h.frz o), by rw [szSet, szSet]; exact h.lt⟩
  · rw [c2 _ _ (by omega)]
    by_cases e : j = i
    · subst e; rw [up_at]; exact World.cell?_setCell_same _ _ _ (h.lk0 j hj)
    · rw [c1 _ (by omega), up_ne e]; exact h.lk0 j hj
  · by_cases e : j = i
    · subst e; rw [up_at]; exact World.cell?_setCell_same _ _ _ ((c1 _ (by omega)).trans (h.lk1 j hj))
    · rw [c2 _ _ (by omega), c1 _ (by omega), up_ne e]; exact h.lk1 j hj
  · rw [c2 _ _ (by omega), c1 _ (by omega)]; exact h.use j hj
  · rw [c2 _ _ (by omega), c1 _ (by omega)]; exact h.flg j hj
end
theorem part0 (w : World) (a b : Int) : (part 23 #[.int .u32 a, .int .u32 b] 0).run Tryd.prog w = .ok (.int .u32 a) w := by kernel_rfl
theorem part1 (w : World) (a b : Int) : (part 23 #[.int .u32 a, .int .u32 b] 1).run Tryd.prog w = .ok (.int .u32 b) w := by kernel_rfl
theorem eqi (w : World) (n : Nat) (a c : Int) : (Op.equalIn (n + 1) 23 (.int .u32 a) (.int .u32 c)).run Tryd.prog w = .ok (a == c) w := by
  simp [Op.equalIn, run_underlying Tryd.underlying23]
theorem eqr (w : World) (n : Nat) (a b c d : Int) : (Op.equalIn (n + 1 + 1) 161 (.agg #[.int .u32 a, .int .u32 b]) (.agg #[.int .u32 c, .int .u32 d])).run Tryd.prog w = .ok (a == c && b == d) w := by
  rw [Op.equalIn]
  cases h1 : a == c <;> cases h2 : b == d <;> simp [run_underlying Tryd.underlying161, part0, part1, eqi, h1, h2]
theorem eql161 (w : World) (a b c d : Int) (r : Bool) (h : (a == c && b == d) = r) : (binOp .eql 161 (.agg #[.int .u32 a, .int .u32 b]) (.agg #[.int .u32 c, .int .u32 d])).run Tryd.prog w = .ok (.bool r) w := by
  have := eqr w 9998 a b c d
  rw [h] at this
  simp only [binOp, Op.equal]
  have e : Op.maxDepth = 9998 + 1 + 1 := rfl
  simp [e, this]
theorem neq161 (w : World) (a b c d : Int) (r : Bool) (h : (a == c && b == d) = r) : (binOp .neq 161 (.agg #[.int .u32 a, .int .u32 b]) (.agg #[.int .u32 c, .int .u32 d])).run Tryd.prog w = .ok (.bool !r) w := by
  have := eqr w 9998 a b c d
  rw [h] at this
  simp only [binOp, Op.equal]
  have e : Op.maxDepth = 9998 + 1 + 1 := rfl
  simp [e, this]
set_option maxHeartbeats 1000000 in
theorem set10 (w : World) (g B n c : Nat) (l : Nat → Option Nat) (i x : Nat) (h : Pr w g B n c l) (hi : i < n) (hx : x < n) :
    Calls Tryd.prog 10 #[.pointer (some ⟨g, 0, none⟩), .int .i64 i, .int .u32 x] w (fun e w' => e = .returned (.tuple #[]) ∧ Pr w' g B n c (lk.up l i x) ∧ Touch (fun k => k = B) w w') := by
  have H := Lib.hid h
  have c1 := h.c106
  have c2 := h.lk0 i hi
  have c3 := h.lk1 i hi
  have f2 := h.frz (i * 10 + 2)
  have f3 := h.frz (i * 10 + 3)
  have hs := h.small
  have hc := h.nc
  clear h
  go_enter Tryd.func10, Tryd.ntmps10
  go_wp2_with fail
  go_end0
  exact ⟨rfl, H.out.link hi hx, ((Touch.refl (fun k => k = B) w).setCell _ (fun _ => rfl) _).setCell _ (fun _ => rfl) _⟩
def lval (o : Option Nat) : Int := match o with | none => -1 | some j => j
set_option maxHeartbeats 1000000 in
theorem link12 (w : World) (g B n c : Nat) (l : Nat → Option Nat) (i : Nat) (h : Pr w g B n c l) (hi : i < n) :
    Calls Tryd.prog 12 #[.pointer (some ⟨g, 0, none⟩), .int .i64 i] w (fun e w' => e = .returned (.int .i64 (lval (l i))) ∧ Below w.heap.size w w') := by
  have c1 := h.c106
  have c2 := h.lk0 i hi
  have c3 := h.lk1 i hi
  have hs := h.small
  have hc := h.nc
  obtain ⟨v1, v2⟩ := h.inv
  have v0 := h.g0
  have v3 := h.lt
  have v4 := h.gB
  have hz : 0 < w.heap.size := by omega
  have hj := fun j => h.fits i j hi
  clear h
  cases hl : l i with
  | none =>
    rw [hl] at c2 c3
    simp only [la, lb] at c2 c3
    clear hj hl
    have hq := fun w => eql161 w 4294967295 4294967295 4294967295 4294967295 true rfl
    go_enter Tryd.func12, Tryd.ntmps12
    go_wp2_with fail
    go_ret
    exact ⟨rfl, (Below.refl _ _).alloc (Nat.le_refl _) _⟩
  | some j =>
    rw [hl] at c2 c3
    simp only [la, lb] at c2 c3
    have hjn := hj j hl
    clear hj hl
    have hq := fun w => eql161 w 0 j 4294967295 4294967295 false rfl
    go_enter Tryd.func12, Tryd.ntmps12
    go_wp2_with fail
    go_ret
    exact ⟨rfl, (Below.refl _ _).alloc (Nat.le_refl _) _⟩
theorem cont15 (w : World) (g B n c : Nat) (l : Nat → Option Nat) (i j : Nat) (h : Pr w g B n c l) (hi : i < n) (hj : j < n) :
    Calls Tryd.prog 15 #[.pointer (some ⟨B, i * 10, none⟩), .pointer (some ⟨B, j * 10, none⟩)] w (fun e w' => e = .returned (.tuple #[]) ∧ Pr w' g B n c l ∧ Touch (fun k => k = B) w w') := by
  have H := Lib.hid h
  have c1 := h.use i hi
  have c2 := h.use j hj
  have c3 := (h.setUse hi).flg i hi
  have c4 := (h.setUse hi).flg j hj
  have f2 := h.frz (i * 10 + 4)
  clear h
  go_enter Tryd.func15, Tryd.ntmps15
  go_wp2
  go_region
  all_goals
    go_wp2
    go_end0
    exact ⟨rfl, (H.out.setUse hi).below ⟨rfl, rfl, rfl, Nat.le_refl _, fun _ _ => rfl⟩, ((Touch.refl (fun k => k = B) w).setCell _ (fun _ => rfl) _).drew⟩
end Go.Proofs.YtnemldibhdphoaaDoor.lk
