/-
  Deferred errors: two are merged: the walk.
-/
import Derived.Test.YtjomfebcigiekaaDe
import Derived.Deep.WholeRow

namespace Go.Proofs.Ytjomfebcigiekaa.de
open Go.ChangeShapes Go.WideShapes Go.ChangeAt Go.RowKit Go.Deep
set_option linter.unusedVariables false
set_option linter.unusedSimpArgs false
set_option linter.unnecessarySimpa false
set_option maxRecDepth 100000
set_option maxHeartbeats 1000000
/-- Blocks known whole stay behind a step that leaves old blocks alone. -/
theorem blk {w w' : World} {k : Nat} {o : Obj} (h : w.heap[k]? = some o) (hb : Below w.heap.size w w') : w'.heap[k]? = some o := (hb.block k (lt_of_block h)).trans h
theorem results7 {a : Act} {w : World} {R1 R2 : Nat} {p q : Nat → Int} {x y : Option Addr} {n c m d : Nat} (h4 : a.eval (.tmp 4) = .pointer (some ⟨R1, 0, none⟩)) (h5 : a.eval (.tmp 5) = .pointer (some ⟨R2, 0, none⟩))
    (g1 : w.heap[R1]? = some (.cells (dA p x n c) 36 (0, 0))) (g2 : w.heap[R2]? = some (.cells (dA q y m d) 36 (0, 0))) : (results Try.f7 a.tmps).run Try.prog w = .ok (.tuple #[.agg (dA p x n c), .agg (dA q y m d)]) w := by
  have h4' : a.tmps[4]?.getD undef = .pointer (some ⟨R1, 0, none⟩) := by simpa [Act.eval] using h4
  have h5' : a.tmps[5]?.getD undef = .pointer (some ⟨R2, 0, none⟩) := by simpa [Act.eval] using h5
  have l1 := run_loadVar_row (P := Try.prog) w R1 36 36 (dA p x n c) (0, 0) _ g1 Try.underlying36 rfl (by kernel_rfl)
  have l2 := run_loadVar_row (P := Try.prog) w R2 36 36 (dA q y m d) (0, 0) _ g2 Try.underlying36 rfl (by kernel_rfl)
  simp [results, Try.results7, h4', h5', asAddr, l1, l2]
def M7 (w : World) (p q za zb : Nat → Int) (n m : Nat) (e : Ending) (w' : World) : Prop := ∃ a c b d, e = .returned (.tuple #[.agg (dA p a n c), .agg (dA (mp p q) b (m + n) d)]) ∧ OwnS w' 33 b (m + n) d (cat zb m za) w.heap.size ∧ Below w.heap.size w w'
theorem merge7 (w : World) (p q za zb : Nat → Int) (xa xb : Option Addr) (n ca m cb : Nat) (hn : n ≤ 65536) (hm : m ≤ 65536) (ha : Row w xa (n * 2) (zc za)) (hb : Row w xb (m * 2) (zc zb)) (hna : xa = none → n = 0 ∧ ca = 0) (hnb : xb = none → m = 0 ∧ cb = 0) :
    Calls Try.prog 7 #[.agg (dA p xa n ca), .agg (dA q xb m cb)] w (M7 w p q za zb n m) := by
  have hb0 : Below w.heap.size w ((((w.alloc (.cells (dA p xa n ca) 36)).alloc (.cells (dA q xb m cb) 36)).alloc (.cells #[.int .i32 0, .int .i32 0, .int .i32 0, .int .i32 0, .int .i32 0, .int .i32 0, .slice none 0 0] 36)).alloc (.cells #[.int .i32 0, .int .i32 0, .int .i32 0, .int .i32 0, .int .i32 0, .int .i32 0, .slice none 0 0] 36)) := ((((Below.refl _ _).alloc (Nat.le_refl _) _).alloc (by simp) _).alloc (by simp; omega) _).alloc (by simp; omega) _
  have e1 : ((((w.alloc (.cells (dA p xa n ca) 36)).alloc (.cells (dA q xb m cb) 36)).alloc (.cells #[.int .i32 0, .int .i32 0, .int .i32 0, .int .i32 0, .int .i32 0, .int .i32 0, .slice none 0 0] 36)).alloc (.cells #[.int .i32 0, .int .i32 0, .int .i32 0, .int .i32 0, .int .i32 0, .int .i32 0, .slice none 0 0] 36)).heap[w.heap.size]? = some (.cells (dA p xa n ca) 36 (0, 0)) := blk (blk (heap_alloc2_old ..) ((Below.refl _ _).alloc (Nat.le_refl _) _)) ((Below.refl _ _).alloc (Nat.le_refl _) _)
  have e2 : ((((w.alloc (.cells (dA p xa n ca) 36)).alloc (.cells (dA q xb m cb) 36)).alloc (.cells #[.int .i32 0, .int .i32 0, .int .i32 0, .int .i32 0, .int .i32 0, .int .i32 0, .slice none 0 0] 36)).alloc (.cells #[.int .i32 0, .int .i32 0, .int .i32 0, .int .i32 0, .int .i32 0, .int .i32 0, .slice none 0 0] 36)).heap[w.heap.size + 1]? = some (.cells (dA q xb m cb) 36 (0, 0)) := by
    have h := heap_alloc2_old (w.alloc (.cells (dA p xa n ca) 36)) (.cells (dA q xb m cb) 36) (.cells #[.int .i32 0, .int .i32 0, .int .i32 0, .int .i32 0, .int .i32 0, .int .i32 0, .slice none 0 0] 36)
    rw [show (w.alloc (.cells (dA p xa n ca) 36)).heap.size = w.heap.size + 1 by simp] at h
    exact blk h ((Below.refl _ _).alloc (Nat.le_refl _) _)
  have e3 : ((((w.alloc (.cells (dA p xa n ca) 36)).alloc (.cells (dA q xb m cb) 36)).alloc (.cells #[.int .i32 0, .int .i32 0, .int .i32 0, .int .i32 0, .int .i32 0, .int .i32 0, .slice none 0 0] 36)).alloc (.cells #[.int .i32 0, .int .i32 0, .int .i32 0, .int .i32 0, .int .i32 0, .int .i32 0, .slice none 0 0] 36)).heap[w.heap.size + 1 + 1]? = some (.cells #[.int .i32 0, .int .i32 0, .int .i32 0, .int .i32 0, .int .i32 0, .int .i32 0, .slice none 0 0] 36 (0, 0)) := by
    have h := heap_alloc2_old ((w.alloc (.cells (dA p xa n ca) 36)).alloc (.cells (dA q xb m cb) 36)) (.cells #[.int .i32 0, .int .i32 0, .int .i32 0, .int .i32 0, .int .i32 0, .int .i32 0, .slice none 0 0] 36) (.cells #[.int .i32 0, .int .i32 0, .int .i32 0, .int .i32 0, .int .i32 0, .int .i32 0, .slice none 0 0] 36)
    rw [show ((w.alloc (.cells (dA p xa n ca) 36)).alloc (.cells (dA q xb m cb) 36)).heap.size = w.heap.size + 1 + 1 by simp] at h
    exact h
  have e4 : ((((w.alloc (.cells (dA p xa n ca) 36)).alloc (.cells (dA q xb m cb) 36)).alloc (.cells #[.int .i32 0, .int .i32 0, .int .i32 0, .int .i32 0, .int .i32 0, .int .i32 0, .slice none 0 0] 36)).alloc (.cells #[.int .i32 0, .int .i32 0, .int .i32 0, .int .i32 0, .int .i32 0, .int .i32 0, .slice none 0 0] 36)).heap[w.heap.size + 1 + 1 + 1]? = some (.cells #[.int .i32 0, .int .i32 0, .int .i32 0, .int .i32 0, .int .i32 0, .int .i32 0, .slice none 0 0] 36 (0, 0)) := by
    have h := heap_alloc_new (((w.alloc (.cells (dA p xa n ca) 36)).alloc (.cells (dA q xb m cb) 36)).alloc (.cells #[.int .i32 0, .int .i32 0, .int .i32 0, .int .i32 0, .int .i32 0, .int .i32 0, .slice none 0 0] 36)) (.cells #[.int .i32 0, .int .i32 0, .int .i32 0, .int .i32 0, .int .i32 0, .int .i32 0, .slice none 0 0] 36)
    rw [show (((w.alloc (.cells (dA p xa n ca) 36)).alloc (.cells (dA q xb m cb) 36)).alloc (.cells #[.int .i32 0, .int .i32 0, .int .i32 0, .int .i32 0, .int .i32 0, .int .i32 0, .slice none 0 0] 36)).heap.size = w.heap.size + 1 + 1 + 1 by simp] at h
    exact h
  have hz : ((((w.alloc (.cells (dA p xa n ca) 36)).alloc (.cells (dA q xb m cb) 36)).alloc (.cells #[.int .i32 0, .int .i32 0, .int .i32 0, .int .i32 0, .int .i32 0, .int .i32 0, .slice none 0 0] 36)).alloc (.cells #[.int .i32 0, .int .i32 0, .int .i32 0, .int .i32 0, .int .i32 0, .int .i32 0, .slice none 0 0] 36)).heap.size = w.heap.size + 4 := by simp
  have H1 := Lib.hid e1
  have H2 := Lib.hid e2
  have H3 := Lib.hid e3
  have H4 := Lib.hid e4
  have HB0 := Lib.hid hb0
  have HZ := Lib.hid hz
  have HRA : Hid (Row ((((w.alloc (.cells (dA p xa n ca) 36)).alloc (.cells (dA q xb m cb) 36)).alloc (.cells #[.int .i32 0, .int .i32 0, .int .i32 0, .int .i32 0, .int .i32 0, .int .i32 0, .slice none 0 0] 36)).alloc (.cells #[.int .i32 0, .int .i32 0, .int .i32 0, .int .i32 0, .int .i32 0, .int .i32 0, .slice none 0 0] 36)) xa (n * 2) (zc za)) := Lib.hid ((((ha.below ((Below.refl _ _).alloc (Nat.le_refl _) _)).below ((Below.refl _ _).alloc (Nat.le_refl _) _)).below ((Below.refl _ _).alloc (Nat.le_refl _) _)).below ((Below.refl _ _).alloc (Nat.le_refl _) _))
  have HRB : Hid (Row ((((w.alloc (.cells (dA p xa n ca) 36)).alloc (.cells (dA q xb m cb) 36)).alloc (.cells #[.int .i32 0, .int .i32 0, .int .i32 0, .int .i32 0, .int .i32 0, .int .i32 0, .slice none 0 0] 36)).alloc (.cells #[.int .i32 0, .int .i32 0, .int .i32 0, .int .i32 0, .int .i32 0, .int .i32 0, .slice none 0 0] 36)) xb (m * 2) (zc zb)) := Lib.hid ((((hb.below ((Below.refl _ _).alloc (Nat.le_refl _) _)).below ((Below.refl _ _).alloc (Nat.le_refl _) _)).below ((Below.refl _ _).alloc (Nat.le_refl _) _)).below ((Below.refl _ _).alloc (Nat.le_refl _) _))
  have HNA := Lib.hid hna
  have HNB := Lib.hid hnb
  clear e1 e2 e3 e4 hb0 hz ha hb hna hnb
  go_enter Try.func7, Try.ntmps7
  go_upto_region 1 with (fail)
  generalize ((((w.alloc (.cells (dA p xa n ca) 36)).alloc (.cells (dA q xb m cb) 36)).alloc (.cells #[.int .i32 0, .int .i32 0, .int .i32 0, .int .i32 0, .int .i32 0, .int .i32 0, .slice none 0 0] 36)).alloc (.cells #[.int .i32 0, .int .i32 0, .int .i32 0, .int .i32 0, .int .i32 0, .int .i32 0, .slice none 0 0] 36)) = w1 at *
  go_upto_region 2 with (first | (refine wpList_load_row rfl 36 _ rfl w.heap.size rfl 36 (dA p xa n ca) (0, 0) _ H1.out Try.underlying36 rfl (by kernel_rfl) ?_) | (go_at_call 11; refine (conv11 _ _ za _ _ _ (by omega) HRA.out HNA.out).mono ?_; rintro e w2 ⟨ya, cy, rfl, hb1, hown⟩; have OW1 := Lib.hid hown; have HBX := Lib.hid hb1; clear hown hb1) | (refine wpList_store_row rfl 47 _ _ rfl _ (dA p ya n cy) rfl rfl 47 _ (heap_alloc_new _ _) (by kernel_rfl) rfl (by kernel_rfl) ?_; rw [World.setRow_alloc_new]))
  have hFn := heap_alloc_new w2 (.cells (dA p ya n cy) 47)
  have hba : Below w1.heap.size w1 (w2.alloc (.cells (dA p ya n cy) 47)) := HBX.out.alloc HBX.out.size _
  have HF := Lib.hid hFn
  have GF : Hid (w1.heap.size ≤ w2.heap.size) := Lib.hid HBX.out.size
  have OWA : Hid (OwnS (w2.alloc (.cells (dA p ya n cy) 47)) 44 ya n cy za w1.heap.size) := Lib.hid (OW1.out.below ((Below.refl _ _).alloc (Nat.le_refl _) _))
  have OLT : Hid (∀ x, ya = some x → x.block < w2.heap.size) := Lib.hid OW1.out.lt
  replace H2 := Lib.hid (blk H2.out hba)
  replace H3 := Lib.hid (blk H3.out hba)
  replace H4 := Lib.hid (blk H4.out hba)
  replace HRB := Lib.hid (HRB.out.below hba)
  have HB2 := Lib.hid (HB0.out.trans (hba.mono HB0.out.size))
  have GS : Hid (w2.heap.size < (w2.alloc (.cells (dA p ya n cy) 47)).heap.size) := Lib.hid (by simp)
  clear hFn hba HBX OW1 H1 HRA HB0
  generalize w2.alloc (.cells (dA p ya n cy) 47) = w3 at *
  generalize w2.heap.size = F at *
  go_upto_region 3 with (first | (refine wpList_load_row rfl 36 _ rfl (w.heap.size + 1) rfl 36 (dA q xb m cb) (0, 0) _ H2.out Try.underlying36 rfl (by kernel_rfl) ?_) | (go_at_call 11; refine (conv11 _ _ zb _ _ _ (by omega) HRB.out HNB.out).mono ?_; rintro e w4 ⟨yb, cz, rfl, hb1, hown⟩; have OW2 := Lib.hid hown; have HBX := Lib.hid hb1; clear hown hb1) | (refine wpList_store_row rfl 47 _ _ rfl _ (dA q yb m cz) rfl rfl 47 _ (heap_alloc_new _ _) (by kernel_rfl) rfl (by kernel_rfl) ?_; rw [World.setRow_alloc_new]))
  have hTn := heap_alloc_new w4 (.cells (dA q yb m cz) 47)
  have hba : Below w3.heap.size w3 (w4.alloc (.cells (dA q yb m cz) 47)) := HBX.out.alloc HBX.out.size _
  have HT := Lib.hid hTn
  have hlt := OW2.out.lt
  have hge := OW2.out.ge
  have hs3 := GS.out
  have hs1 := GF.out
  have hs4 := HBX.out.size
  have hso := OLT.out
  have HXA : Hid (∀ x, ya = some x → x.block ≠ F ∧ x.block ≠ w4.heap.size) := Lib.hid fun x hx => by have := hso x hx; omega
  have HXB : Hid (∀ x, yb = some x → x.block ≠ F ∧ x.block ≠ w4.heap.size) := Lib.hid fun x hx => by have := hlt x hx; have := hge x hx; omega
  have HAB : Hid (∀ x y, ya = some x → yb = some y → x.block ≠ y.block) := Lib.hid fun x y hx hy => by have := hso x hx; have := hge y hy; omega
  have HFT : Hid (F ≠ w4.heap.size) := Lib.hid (by omega)
  have HBT : Hid (w1.heap.size ≤ w4.heap.size) := Lib.hid (by omega)
  have OWB : Hid (OwnS (w4.alloc (.cells (dA q yb m cz) 47)) 44 yb m cz zb w1.heap.size) := Lib.hid ((OW2.out.below ((Below.refl _ _).alloc (Nat.le_refl _) _)).base (by omega))
  replace OWA := Lib.hid (OWA.out.below hba)
  replace HF := Lib.hid (blk HF.out hba)
  replace H3 := Lib.hid (blk H3.out hba)
  replace H4 := Lib.hid (blk H4.out hba)
  have HB4 := Lib.hid (HB2.out.trans (hba.mono HB2.out.size))
  have GT : Hid (w4.heap.size < (w4.alloc (.cells (dA q yb m cz) 47)).heap.size) := Lib.hid (by simp)
  clear hTn hba hlt hge hs3 hs1 hs4 hso HBX OW2 H2 HRB HB2 OLT
  generalize w4.alloc (.cells (dA q yb m cz) 47) = w5 at *
  generalize w4.heap.size = T at *
  go_upto_region 4 with (go_at_call 12; refine (merge12 _ F T p q za zb ya yb n cy m cz w1.heap.size hn hm HF.out HT.out HFT.out OWA.out OWB.out HXA.out HXB.out HAB.out HBT.out).mono ?_; rintro e w6 ⟨rfl, b6, d6, hT6, hr6, hn6, hF6, hra6, hb6, hge6⟩)
  have hz := HZ.out
  have hge := OWA.out.ge
  have gF := GF.out
  have gT := HBT.out
  try simp only [Act.put, List.setIfInBounds_toArray, List.set_cons_zero, List.set_cons_succ]
  refine reg_use (ops := ops7) (by kernel_rfl) ?_
  refine reg7 w w6 F T (w.heap.size + 1 + 1) (w.heap.size + 1 + 1 + 1) p (mp p q) za (cat zb m za) ya b6 n cy (m + n) d6 rfl rfl rfl rfl rfl (HB4.out.trans (hb6.mono (by omega))) hF6 hT6 ((hb6.block _ (by omega)).trans H3.out) ((hb6.block _ (by omega)).trans H4.out) (by omega) (by omega) (by omega) (by omega) (by omega) (by omega) (by omega) (by omega) (by omega) hra6 hr6 OWA.out.nil hn6 (fun x hx => by have := hge x hx; omega) (fun x hx => by have := hge6 x hx; omega) ?_
  intro a' w' t hd ha4 ha5 hbw ho1 ho2 hR1 hR2
  repeat go_step
  refine bodyPost_ret (results7 ha4 ha5 hR1 hR2) hd ⟨t.a, t.c, t.b, t.d, rfl, ho2.base (by have := HB4.out.size; have := hb6.size; omega), hbw⟩
end Go.Proofs.Ytjomfebcigiekaa.de
