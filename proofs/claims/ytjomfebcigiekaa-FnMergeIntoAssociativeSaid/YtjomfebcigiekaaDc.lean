/-
  Deferred errors: copies.
-/
import Derived.Test.YtjomfebcigiekaaDb
import Derived.Laws.MakeOwn
import Derived.WalkSpells

namespace Go.Proofs.Ytjomfebcigiekaa.de
open Go.ChangeShapes Go.WideShapes Go.ChangeAt Go.RowKit Go.Deep
set_option linter.unusedVariables false
set_option linter.unusedSimpArgs false
set_option linter.unnecessarySimpa false
set_option maxRecDepth 100000
set_option maxHeartbeats 1000000
theorem info33 : (Try.prog.info? 33).map (fun i => (i.zero.map (·.cells), i.size, i.bytes)) = some (some #[.int .i32 0, .int .i32 0], 2, 8) := by kernel_rfl
theorem made34 (n : Nat) (hn : n ≤ 131072) (w : World) : (Instr.makeSlice 34 (.int .i64 n) (.int .i64 n)).run Try.prog w = .ok (.slice (some ⟨w.heap.size, 0, none⟩) n n) (w.alloc (.cells (madeCells #[.int .i32 0, .int .i32 0] (n * 2)) 33)) := by
  obtain ⟨i, hi, hz⟩ := Option.map_eq_some_iff.1 info33
  simp only [Prod.mk.injEq] at hz
  obtain ⟨h1, h2, h3⟩ := hz
  obtain ⟨z, hz, hzc⟩ := Option.map_eq_some_iff.1 h1
  have hr := run_make (P := Try.prog) w 34 33 i z Try.underlying34 hi hz .i64 .i64 n n (by omega) (Int.le_refl _) (by rw [h3]; omega) (by omega)
  simp only [Int.toNat_natCast, h2, hzc] at hr
  exact hr
theorem row34 (n : Nat) (w : World) : RowG (w.alloc (.cells (madeCells #[.int .i32 0, .int .i32 0] (n * 2)) 33)) w.heap.size 33 (n * 2) (fun p => .int .i32 0) := by
  have h := RowG.made w 33 (madeCells #[.int .i32 0, .int .i32 0] (n * 2)) (fun p => .int .i32 0) (fun p hp => ?_)
  · rw [size_madeCells] at h
    exact h
  · rw [size_madeCells] at hp
    simp only [madeCells]
    rw [Array.getElem?_map, Array.getElem?_range, if_pos hp]
    have : p % 2 = 0 ∨ p % 2 = 1 := by omega
    rcases this with e | e <;> simp [e]
theorem info44 : (Try.prog.info? 44).map (fun i => (i.zero.map (·.cells), i.size, i.bytes)) = some (some #[.int .i32 0, .int .i32 0], 2, 8) := by kernel_rfl
theorem made45 (n : Nat) (hn : n ≤ 131072) (w : World) : (Instr.makeSlice 45 (.int .i64 n) (.int .i64 n)).run Try.prog w = .ok (.slice (some ⟨w.heap.size, 0, none⟩) n n) (w.alloc (.cells (madeCells #[.int .i32 0, .int .i32 0] (n * 2)) 44)) := by
  obtain ⟨i, hi, hz⟩ := Option.map_eq_some_iff.1 info44
  simp only [Prod.mk.injEq] at hz
  obtain ⟨h1, h2, h3⟩ := hz
  obtain ⟨z, hz, hzc⟩ := Option.map_eq_some_iff.1 h1
  have hr := run_make (P := Try.prog) w 45 44 i z Try.underlying45 hi hz .i64 .i64 n n (by omega) (Int.le_refl _) (by rw [h3]; omega) (by omega)
  simp only [Int.toNat_natCast, h2, hzc] at hr
  exact hr
theorem row45 (n : Nat) (w : World) : RowG (w.alloc (.cells (madeCells #[.int .i32 0, .int .i32 0] (n * 2)) 44)) w.heap.size 44 (n * 2) (fun p => .int .i32 0) := by
  have h := RowG.made w 44 (madeCells #[.int .i32 0, .int .i32 0] (n * 2)) (fun p => .int .i32 0) (fun p hp => ?_)
  · rw [size_madeCells] at h
    exact h
  · rw [size_madeCells] at hp
    simp only [madeCells]
    rw [Array.getElem?_map, Array.getElem?_range, if_pos hp]
    have : p % 2 = 0 ∨ p % 2 = 1 := by omega
    rcases this with e | e <;> simp [e]
/-- A slice of n ranges in a block of its own, or none. -/
def OwnS (w : World) (E : TypeId) (a : Option Addr) (n c : Nat) (z : Nat → Int) (B : Nat) : Prop := (a = none ∧ n = 0 ∧ c = 0) ∨ ∃ g, a = some ⟨g, 0, none⟩ ∧ c = n ∧ B ≤ g ∧ RowG w g E (n * 2) (zc z)
theorem OwnS.row {w : World} {E : TypeId} {a : Option Addr} {n c : Nat} {z : Nat → Int} {B : Nat} (h : OwnS w E a n c z B) : Row w a (n * 2) (zc z) := by
  intro h0
  rcases h with ⟨_, h, _⟩ | ⟨g, h1, _, _, h4⟩
  · omega
  · exact ⟨g, 0, h1, fun i hi => by rw [Nat.zero_add]; exact h4.cell hi⟩
theorem OwnS.nil {w : World} {E : TypeId} {a : Option Addr} {n c : Nat} {z : Nat → Int} {B : Nat} (h : OwnS w E a n c z B) : a = none → n = 0 ∧ c = 0 := fun e => by
  rcases h with ⟨_, h⟩ | ⟨g, h1, _⟩
  · exact h
  · rw [e] at h1; cases h1
theorem OwnS.below {w w' : World} {E : TypeId} {a : Option Addr} {n c : Nat} {z : Nat → Int} {B : Nat} (h : OwnS w E a n c z B) (hb : Below w.heap.size w w') : OwnS w' E a n c z B := by
  rcases h with h | ⟨g, h1, h2, h3, h4⟩
  · exact .inl h
  · exact .inr ⟨g, h1, h2, h3, h4.below hb h4.lt⟩
/-- The state of the copying loop: k ranges are copied. -/
def LpI (sS dE dS : TypeId) (w : World) (p z : Nat → Int) (a : Option Addr) (n c g k : Nat) (wr : World) : Prop := Below w.heap.size w wr ∧ wr.heap[w.heap.size]? = some (.cells (dA p a n c) sS (0, 0)) ∧ wr.heap[w.heap.size + 1]? = some (.cells (dA (fun _ => 0) none 0 0) dS (0, 0)) ∧ RowG wr g dE (n * 2) (fun q => if q < 2 * k then zc z q else .int .i32 0)
theorem LpI.below {sS dE dS : TypeId} {w wr w3 : World} {p z : Nat → Int} {a : Option Addr} {n c g k : Nat} (h : LpI sS dE dS w p z a n c g k wr) (hg : w.heap.size + 2 ≤ g) (hb : Below wr.heap.size wr w3) : LpI sS dE dS w p z a n c g k w3 :=
  ⟨h.1.trans (hb.mono h.1.size), (hb.block _ (lt_of_block h.2.1)).trans h.2.1, (hb.block _ (lt_of_block h.2.2.1)).trans h.2.2.1, h.2.2.2.below hb h.2.2.2.lt⟩
theorem LpI.put {sS dE dS : TypeId} {w wr : World} {p z : Nat → Int} {a : Option Addr} {n c g k : Nat} (h : LpI sS dE dS w p z a n c g k wr) (hg : w.heap.size + 2 ≤ g) : LpI sS dE dS w p z a n c g (k + 1) ((wr.setCell ⟨g, k * 2, none⟩ (.int .i32 (z (k * 2)))).setCell ⟨g, k * 2 + 1, none⟩ (.int .i32 (z (k * 2 + 1)))) := by
  obtain ⟨h1, h2, h3, h4⟩ := h
  refine ⟨(h1.setCell (by show w.heap.size ≤ g; omega) _).setCell (by show w.heap.size ≤ g; omega) _, ?_, ?_, ((h4.set _ _).set _ _).ext fun q _ => ?_⟩
  · exact (Below.heap_setCell _ _ _ _ (by show w.heap.size ≠ g; omega)).trans ((Below.heap_setCell _ _ _ _ (by show w.heap.size ≠ g; omega)).trans h2)
  · exact (Below.heap_setCell _ _ _ _ (by show w.heap.size + 1 ≠ g; omega)).trans ((Below.heap_setCell _ _ _ _ (by show w.heap.size + 1 ≠ g; omega)).trans h3)
  · by_cases e1 : q = k * 2 + 1
    · subst e1; rw [if_pos rfl, if_pos (by omega)]; rfl
    · rw [if_neg e1]
      by_cases e2 : q = k * 2
      · subst e2; rw [if_pos rfl, if_pos (by omega)]; rfl
      · rw [if_neg e2]
        by_cases e3 : q < 2 * k
        · rw [if_pos e3, if_pos (by omega)]
        · rw [if_neg e3, if_neg (by omega)]
def ConvP (E : TypeId) (w : World) (p z : Nat → Int) (n : Nat) (e : Ending) (w' : World) : Prop := ∃ a' c', e = .returned (.agg (dA p a' n c')) ∧ Below w.heap.size w w' ∧ OwnS w' E a' n c' z w.heap.size
theorem conv8 (w : World) (p z : Nat → Int) (a : Option Addr) (n c : Nat) (hn : n ≤ 131072) (hr : Row w a (n * 2) (zc z)) (hnil : a = none → n = 0 ∧ c = 0) :
    Calls Try.prog 8 #[.agg (dA p a n c)] w (ConvP 33 w p z n) := by
  have hb0 : Below w.heap.size w ((w.alloc (.cells (dA p a n c) 31)).alloc (.cells #[.int .i32 0, .int .i32 0, .int .i32 0, .int .i32 0, .int .i32 0, .int .i32 0, .slice none 0 0] 36)) := ((Below.refl _ _).alloc (Nat.le_refl _) _).alloc (by simp) _
  have HR : Hid (Row ((w.alloc (.cells (dA p a n c) 31)).alloc (.cells #[.int .i32 0, .int .i32 0, .int .i32 0, .int .i32 0, .int .i32 0, .int .i32 0, .slice none 0 0] 36)) a (n * 2) (zc z)) := Lib.hid ((hr.below ((Below.refl _ _).alloc (Nat.le_refl _) _)).below ((Below.refl _ _).alloc (Nat.le_refl _) _))
  have HA : Hid (((w.alloc (.cells (dA p a n c) 31)).alloc (.cells #[.int .i32 0, .int .i32 0, .int .i32 0, .int .i32 0, .int .i32 0, .int .i32 0, .slice none 0 0] 36)).heap[w.heap.size]? = some (.cells (dA p a n c) 31 (0, 0))) := Lib.hid (heap_alloc2_old ..)
  have HO : Hid (((w.alloc (.cells (dA p a n c) 31)).alloc (.cells #[.int .i32 0, .int .i32 0, .int .i32 0, .int .i32 0, .int .i32 0, .int .i32 0, .slice none 0 0] 36)).heap[w.heap.size + 1]? = some (.cells (dA (fun _ => 0) none 0 0) 36 (0, 0))) := Lib.hid (by have := heap_alloc_new (w.alloc (.cells (dA p a n c) 31)) (.cells #[.int .i32 0, .int .i32 0, .int .i32 0, .int .i32 0, .int .i32 0, .int .i32 0, .slice none 0 0] 36); rw [show (w.alloc (.cells (dA p a n c) 31)).heap.size = w.heap.size + 1 by simp] at this; exact this)
  have HB := Lib.hid hb0
  have HNIL := Lib.hid hnil
  have HR0 := Lib.hid hr
  have hsz : ((w.alloc (.cells (dA p a n c) 31)).alloc (.cells #[.int .i32 0, .int .i32 0, .int .i32 0, .int .i32 0, .int .i32 0, .int .i32 0, .slice none 0 0] 36)).heap.size = w.heap.size + 2 := by simp
  have HSZ := Lib.hid hsz
  clear hr hnil hb0 hsz
  have hneq := fun (w : World) (a : Option Addr) (n c : Nat) => run_neq_slice_nil_any (P := Try.prog) w 29 28 a n c 0 0 Try.underlying29
  go_enter Try.func8, Try.ntmps8
  go_upto_region 2 with (fail)
  generalize ((w.alloc (.cells (dA p a n c) 31)).alloc (.cells #[.int .i32 0, .int .i32 0, .int .i32 0, .int .i32 0, .int .i32 0, .int .i32 0, .slice none 0 0] 36)) = w1 at *
  have k6 : w1.cell? ⟨w.heap.size, 6, none⟩ = some (.slice a n c) := (cell_of_row _ _ 6 _ _ _ HA.out).trans rfl
  cases a with
  | none =>
    obtain ⟨rfl, rfl⟩ := HNIL.out rfl
    go_upto_region 8 with (fail)
    try simp only [Act.put, List.setIfInBounds_toArray, List.set_cons_zero, List.set_cons_succ]
    refine reg_use (ops := ops8_8) (by kernel_rfl) ?_
    refine reg8_8 w w1 w.heap.size (w.heap.size + 1) p none none 0 0 0 0 rfl rfl rfl rfl (by omega) (by omega) HB.out HA.out HO.out ?_
    intro a' w' hd ha hb hk hR hle
    repeat go_step
    refine bodyPost_ret (results_cell_row rfl _ _ (w.heap.size + 1) 36 _ (0, 0) _ ha hR Try.underlying36 rfl (by kernel_rfl)) hd ⟨none, 0, rfl, hb, .inl ⟨rfl, rfl, rfl⟩⟩
  | some x =>
    have hmk := made34 n hn
    go_wp2_with fail
    clear hmk
    have hrow0 := row34 n w1
    have hbA : Below w1.heap.size w1 (w1.alloc (.cells (madeCells #[.int .i32 0, .int .i32 0] (n * 2)) 33)) := (Below.refl _ _).alloc (Nat.le_refl _) _
    have HROW := Lib.hid hrow0
    have HB1 := Lib.hid (HB.out.trans (hbA.mono HB.out.size))
    have HA1 := Lib.hid ((hbA.block _ (lt_of_block HA.out)).trans HA.out)
    have HO1 := Lib.hid ((hbA.block _ (lt_of_block HO.out)).trans HO.out)
    have HG : Hid (w.heap.size + 2 ≤ w1.heap.size) := Lib.hid (by have := HSZ.out; omega)
    clear hrow0 hbA k6 HA HO HB HSZ HR
    generalize w1.alloc (.cells (madeCells #[.int .i32 0, .int .i32 0] (n * 2)) 33) = w2 at *
    generalize w1.heap.size = g at *
    go_loopw [4] (fun ii wr => ∃ k : Nat, k ≤ n ∧ ii = .int .i64 k ∧ LpI 31 33 36 w p z (some x) n c g k wr) (fun ii _ => n - (intOf ii).toNat)
    case atStart => exact ⟨0, by omega, rfl, HB1.out, HA1.out, HO1.out, HROW.out.ext fun q _ => by rw [if_neg (by omega)]⟩
    case round =>
      obtain ⟨k, hk, rfl, hI⟩ := hrel
      have HI := Lib.hid hI
      have k6 : wr.cell? ⟨w.heap.size, 6, none⟩ = some (.slice (some x) n c) := (cell_of_row _ _ 6 _ _ _ hI.2.1).trans rfl
      clear hI HB1 HA1 HO1 HROW
      by_cases hlt : k < n
      · obtain ⟨b, off, hx, hcell⟩ := HR0.out (by omega)
        cases hx
        have c1 : wr.cell? ⟨b, off + k * 2, none⟩ = some (.int .i32 (z (k * 2))) := (HI.out.1.cell (p := ⟨b, off + k * 2, none⟩) (block_lt_of_cell (a := ⟨b, off + k * 2, none⟩) (hcell (k * 2) (by omega)))).trans (hcell (k * 2) (by omega))
        have c2 : wr.cell? ⟨b, off + k * 2 + 1, none⟩ = some (.int .i32 (z (k * 2 + 1))) := (HI.out.1.cell (p := ⟨b, off + (k * 2 + 1), none⟩) (block_lt_of_cell (a := ⟨b, off + (k * 2 + 1), none⟩) (hcell (k * 2 + 1) (by omega)))).trans (hcell (k * 2 + 1) (by omega))
        clear hcell
        go_wp2_with (go_at_call 14; refine (rng14 _ _ _).mono ?_; rintro e w3 ⟨rfl, hb3⟩; have HI3 := Lib.hid (HI.out.below HG.out hb3); clear hb3; have r1 := HI3.out.2.2.2.cell (p := k * 2) (by omega); have r2 := HI3.out.2.2.2.cell (p := k * 2 + 1) (by omega); have f1 := HI3.out.2.2.2.frozen (k * 2); have f2 := HI3.out.2.2.2.frozen (k * 2 + 1))
        go_roundw
        case rel => exact ⟨k + 1, by omega, by go_num, HI3.out.put HG.out⟩
        case measure => simp [intOf]; omega
      · obtain rfl : n = k := by omega
        go_upto_region 8 with (fail)
        try simp only [Act.put, List.setIfInBounds_toArray, List.set_cons_zero, List.set_cons_succ]
        refine reg_use (ops := ops8_8) (by kernel_rfl) ?_
        refine reg8_8 w wr w.heap.size (w.heap.size + 1) p (some x) (some ⟨g, 0, none⟩) n c n n rfl rfl rfl rfl (by omega) (by omega) HI.out.1 HI.out.2.1 HI.out.2.2.1 ?_
        intro a' w' hd ha hb hk hR hle
        have hrow := HI.out.2.2.2
        have hg := HG.out
        repeat go_step
        refine bodyPost_ret (results_cell_row rfl _ _ (w.heap.size + 1) 36 _ (0, 0) _ ha hR Try.underlying36 rfl (by kernel_rfl)) hd ⟨some ⟨g, 0, none⟩, n, rfl, hb, .inr ⟨g, rfl, rfl, by omega, ((hrow.of_block (hk g hrow.lt (by omega))).ext fun q hq => by rw [if_pos (by omega)])⟩⟩
theorem conv11 (w : World) (p z : Nat → Int) (a : Option Addr) (n c : Nat) (hn : n ≤ 131072) (hr : Row w a (n * 2) (zc z)) (hnil : a = none → n = 0 ∧ c = 0) :
    Calls Try.prog 11 #[.agg (dA p a n c)] w (ConvP 44 w p z n) := by
  have hb0 : Below w.heap.size w ((w.alloc (.cells (dA p a n c) 36)).alloc (.cells #[.int .i32 0, .int .i32 0, .int .i32 0, .int .i32 0, .int .i32 0, .int .i32 0, .slice none 0 0] 47)) := ((Below.refl _ _).alloc (Nat.le_refl _) _).alloc (by simp) _
  have HR : Hid (Row ((w.alloc (.cells (dA p a n c) 36)).alloc (.cells #[.int .i32 0, .int .i32 0, .int .i32 0, .int .i32 0, .int .i32 0, .int .i32 0, .slice none 0 0] 47)) a (n * 2) (zc z)) := Lib.hid ((hr.below ((Below.refl _ _).alloc (Nat.le_refl _) _)).below ((Below.refl _ _).alloc (Nat.le_refl _) _))
  have HA : Hid (((w.alloc (.cells (dA p a n c) 36)).alloc (.cells #[.int .i32 0, .int .i32 0, .int .i32 0, .int .i32 0, .int .i32 0, .int .i32 0, .slice none 0 0] 47)).heap[w.heap.size]? = some (.cells (dA p a n c) 36 (0, 0))) := Lib.hid (heap_alloc2_old ..)
  have HO : Hid (((w.alloc (.cells (dA p a n c) 36)).alloc (.cells #[.int .i32 0, .int .i32 0, .int .i32 0, .int .i32 0, .int .i32 0, .int .i32 0, .slice none 0 0] 47)).heap[w.heap.size + 1]? = some (.cells (dA (fun _ => 0) none 0 0) 47 (0, 0))) := Lib.hid (by have := heap_alloc_new (w.alloc (.cells (dA p a n c) 36)) (.cells #[.int .i32 0, .int .i32 0, .int .i32 0, .int .i32 0, .int .i32 0, .int .i32 0, .slice none 0 0] 47); rw [show (w.alloc (.cells (dA p a n c) 36)).heap.size = w.heap.size + 1 by simp] at this; exact this)
  have HB := Lib.hid hb0
  have HNIL := Lib.hid hnil
  have HR0 := Lib.hid hr
  have hsz : ((w.alloc (.cells (dA p a n c) 36)).alloc (.cells #[.int .i32 0, .int .i32 0, .int .i32 0, .int .i32 0, .int .i32 0, .int .i32 0, .slice none 0 0] 47)).heap.size = w.heap.size + 2 := by simp
  have HSZ := Lib.hid hsz
  clear hr hnil hb0 hsz
  have hneq := fun (w : World) (a : Option Addr) (n c : Nat) => run_neq_slice_nil_any (P := Try.prog) w 34 33 a n c 0 0 Try.underlying34
  go_enter Try.func11, Try.ntmps11
  go_upto_region 2 with (fail)
  generalize ((w.alloc (.cells (dA p a n c) 36)).alloc (.cells #[.int .i32 0, .int .i32 0, .int .i32 0, .int .i32 0, .int .i32 0, .int .i32 0, .slice none 0 0] 47)) = w1 at *
  have k6 : w1.cell? ⟨w.heap.size, 6, none⟩ = some (.slice a n c) := (cell_of_row _ _ 6 _ _ _ HA.out).trans rfl
  cases a with
  | none =>
    obtain ⟨rfl, rfl⟩ := HNIL.out rfl
    go_upto_region 8 with (fail)
    try simp only [Act.put, List.setIfInBounds_toArray, List.set_cons_zero, List.set_cons_succ]
    refine reg_use (ops := ops8_11) (by kernel_rfl) ?_
    refine reg8_11 w w1 w.heap.size (w.heap.size + 1) p none none 0 0 0 0 rfl rfl rfl rfl (by omega) (by omega) HB.out HA.out HO.out ?_
    intro a' w' hd ha hb hk hR hle
    repeat go_step
    refine bodyPost_ret (results_cell_row rfl _ _ (w.heap.size + 1) 47 _ (0, 0) _ ha hR Try.underlying47 rfl (by kernel_rfl)) hd ⟨none, 0, rfl, hb, .inl ⟨rfl, rfl, rfl⟩⟩
  | some x =>
    have hmk := made45 n hn
    go_wp2_with fail
    clear hmk
    have hrow0 := row45 n w1
    have hbA : Below w1.heap.size w1 (w1.alloc (.cells (madeCells #[.int .i32 0, .int .i32 0] (n * 2)) 44)) := (Below.refl _ _).alloc (Nat.le_refl _) _
    have HROW := Lib.hid hrow0
    have HB1 := Lib.hid (HB.out.trans (hbA.mono HB.out.size))
    have HA1 := Lib.hid ((hbA.block _ (lt_of_block HA.out)).trans HA.out)
    have HO1 := Lib.hid ((hbA.block _ (lt_of_block HO.out)).trans HO.out)
    have HG : Hid (w.heap.size + 2 ≤ w1.heap.size) := Lib.hid (by have := HSZ.out; omega)
    clear hrow0 hbA k6 HA HO HB HSZ HR
    generalize w1.alloc (.cells (madeCells #[.int .i32 0, .int .i32 0] (n * 2)) 44) = w2 at *
    generalize w1.heap.size = g at *
    go_loopw [4] (fun ii wr => ∃ k : Nat, k ≤ n ∧ ii = .int .i64 k ∧ LpI 36 44 47 w p z (some x) n c g k wr) (fun ii _ => n - (intOf ii).toNat)
    case atStart => exact ⟨0, by omega, rfl, HB1.out, HA1.out, HO1.out, HROW.out.ext fun q _ => by rw [if_neg (by omega)]⟩
    case round =>
      obtain ⟨k, hk, rfl, hI⟩ := hrel
      have HI := Lib.hid hI
      have k6 : wr.cell? ⟨w.heap.size, 6, none⟩ = some (.slice (some x) n c) := (cell_of_row _ _ 6 _ _ _ hI.2.1).trans rfl
      clear hI HB1 HA1 HO1 HROW
      by_cases hlt : k < n
      · obtain ⟨b, off, hx, hcell⟩ := HR0.out (by omega)
        cases hx
        have c1 : wr.cell? ⟨b, off + k * 2, none⟩ = some (.int .i32 (z (k * 2))) := (HI.out.1.cell (p := ⟨b, off + k * 2, none⟩) (block_lt_of_cell (a := ⟨b, off + k * 2, none⟩) (hcell (k * 2) (by omega)))).trans (hcell (k * 2) (by omega))
        have c2 : wr.cell? ⟨b, off + k * 2 + 1, none⟩ = some (.int .i32 (z (k * 2 + 1))) := (HI.out.1.cell (p := ⟨b, off + (k * 2 + 1), none⟩) (block_lt_of_cell (a := ⟨b, off + (k * 2 + 1), none⟩) (hcell (k * 2 + 1) (by omega)))).trans (hcell (k * 2 + 1) (by omega))
        clear hcell
        go_wp2_with (go_at_call 16; refine (rng16 _ _ _).mono ?_; rintro e w3 ⟨rfl, hb3⟩; have HI3 := Lib.hid (HI.out.below HG.out hb3); clear hb3; have r1 := HI3.out.2.2.2.cell (p := k * 2) (by omega); have r2 := HI3.out.2.2.2.cell (p := k * 2 + 1) (by omega); have f1 := HI3.out.2.2.2.frozen (k * 2); have f2 := HI3.out.2.2.2.frozen (k * 2 + 1))
        go_roundw
        case rel => exact ⟨k + 1, by omega, by go_num, HI3.out.put HG.out⟩
        case measure => simp [intOf]; omega
      · obtain rfl : n = k := by omega
        go_upto_region 8 with (fail)
        try simp only [Act.put, List.setIfInBounds_toArray, List.set_cons_zero, List.set_cons_succ]
        refine reg_use (ops := ops8_11) (by kernel_rfl) ?_
        refine reg8_11 w wr w.heap.size (w.heap.size + 1) p (some x) (some ⟨g, 0, none⟩) n c n n rfl rfl rfl rfl (by omega) (by omega) HI.out.1 HI.out.2.1 HI.out.2.2.1 ?_
        intro a' w' hd ha hb hk hR hle
        have hrow := HI.out.2.2.2
        have hg := HG.out
        repeat go_step
        refine bodyPost_ret (results_cell_row rfl _ _ (w.heap.size + 1) 47 _ (0, 0) _ ha hR Try.underlying47 rfl (by kernel_rfl)) hd ⟨some ⟨g, 0, none⟩, n, rfl, hb, .inr ⟨g, rfl, rfl, by omega, ((hrow.of_block (hk g hrow.lt (by omega))).ext fun q hq => by rw [if_pos (by omega)])⟩⟩
theorem conv13 (w : World) (p z : Nat → Int) (a : Option Addr) (n c : Nat) (hn : n ≤ 131072) (hr : Row w a (n * 2) (zc z)) (hnil : a = none → n = 0 ∧ c = 0) :
    Calls Try.prog 13 #[.agg (dA p a n c)] w (ConvP 33 w p z n) := by
  have hb0 : Below w.heap.size w ((w.alloc (.cells (dA p a n c) 47)).alloc (.cells #[.int .i32 0, .int .i32 0, .int .i32 0, .int .i32 0, .int .i32 0, .int .i32 0, .slice none 0 0] 36)) := ((Below.refl _ _).alloc (Nat.le_refl _) _).alloc (by simp) _
  have HR : Hid (Row ((w.alloc (.cells (dA p a n c) 47)).alloc (.cells #[.int .i32 0, .int .i32 0, .int .i32 0, .int .i32 0, .int .i32 0, .int .i32 0, .slice none 0 0] 36)) a (n * 2) (zc z)) := Lib.hid ((hr.below ((Below.refl _ _).alloc (Nat.le_refl _) _)).below ((Below.refl _ _).alloc (Nat.le_refl _) _))
  have HA : Hid (((w.alloc (.cells (dA p a n c) 47)).alloc (.cells #[.int .i32 0, .int .i32 0, .int .i32 0, .int .i32 0, .int .i32 0, .int .i32 0, .slice none 0 0] 36)).heap[w.heap.size]? = some (.cells (dA p a n c) 47 (0, 0))) := Lib.hid (heap_alloc2_old ..)
  have HO : Hid (((w.alloc (.cells (dA p a n c) 47)).alloc (.cells #[.int .i32 0, .int .i32 0, .int .i32 0, .int .i32 0, .int .i32 0, .int .i32 0, .slice none 0 0] 36)).heap[w.heap.size + 1]? = some (.cells (dA (fun _ => 0) none 0 0) 36 (0, 0))) := Lib.hid (by have := heap_alloc_new (w.alloc (.cells (dA p a n c) 47)) (.cells #[.int .i32 0, .int .i32 0, .int .i32 0, .int .i32 0, .int .i32 0, .int .i32 0, .slice none 0 0] 36); rw [show (w.alloc (.cells (dA p a n c) 47)).heap.size = w.heap.size + 1 by simp] at this; exact this)
  have HB := Lib.hid hb0
  have HNIL := Lib.hid hnil
  have HR0 := Lib.hid hr
  have hsz : ((w.alloc (.cells (dA p a n c) 47)).alloc (.cells #[.int .i32 0, .int .i32 0, .int .i32 0, .int .i32 0, .int .i32 0, .int .i32 0, .slice none 0 0] 36)).heap.size = w.heap.size + 2 := by simp
  have HSZ := Lib.hid hsz
  clear hr hnil hb0 hsz
  have hneq := fun (w : World) (a : Option Addr) (n c : Nat) => run_neq_slice_nil_any (P := Try.prog) w 45 44 a n c 0 0 Try.underlying45
  go_enter Try.func13, Try.ntmps13
  go_upto_region 2 with (fail)
  generalize ((w.alloc (.cells (dA p a n c) 47)).alloc (.cells #[.int .i32 0, .int .i32 0, .int .i32 0, .int .i32 0, .int .i32 0, .int .i32 0, .slice none 0 0] 36)) = w1 at *
  have k6 : w1.cell? ⟨w.heap.size, 6, none⟩ = some (.slice a n c) := (cell_of_row _ _ 6 _ _ _ HA.out).trans rfl
  cases a with
  | none =>
    obtain ⟨rfl, rfl⟩ := HNIL.out rfl
    go_upto_region 8 with (fail)
    try simp only [Act.put, List.setIfInBounds_toArray, List.set_cons_zero, List.set_cons_succ]
    refine reg_use (ops := ops8_13) (by kernel_rfl) ?_
    refine reg8_13 w w1 w.heap.size (w.heap.size + 1) p none none 0 0 0 0 rfl rfl rfl rfl (by omega) (by omega) HB.out HA.out HO.out ?_
    intro a' w' hd ha hb hk hR hle
    repeat go_step
    refine bodyPost_ret (results_cell_row rfl _ _ (w.heap.size + 1) 36 _ (0, 0) _ ha hR Try.underlying36 rfl (by kernel_rfl)) hd ⟨none, 0, rfl, hb, .inl ⟨rfl, rfl, rfl⟩⟩
  | some x =>
    have hmk := made34 n hn
    go_wp2_with fail
    clear hmk
    have hrow0 := row34 n w1
    have hbA : Below w1.heap.size w1 (w1.alloc (.cells (madeCells #[.int .i32 0, .int .i32 0] (n * 2)) 33)) := (Below.refl _ _).alloc (Nat.le_refl _) _
    have HROW := Lib.hid hrow0
    have HB1 := Lib.hid (HB.out.trans (hbA.mono HB.out.size))
    have HA1 := Lib.hid ((hbA.block _ (lt_of_block HA.out)).trans HA.out)
    have HO1 := Lib.hid ((hbA.block _ (lt_of_block HO.out)).trans HO.out)
    have HG : Hid (w.heap.size + 2 ≤ w1.heap.size) := Lib.hid (by have := HSZ.out; omega)
    clear hrow0 hbA k6 HA HO HB HSZ HR
    generalize w1.alloc (.cells (madeCells #[.int .i32 0, .int .i32 0] (n * 2)) 33) = w2 at *
    generalize w1.heap.size = g at *
    go_loopw [4] (fun ii wr => ∃ k : Nat, k ≤ n ∧ ii = .int .i64 k ∧ LpI 47 33 36 w p z (some x) n c g k wr) (fun ii _ => n - (intOf ii).toNat)
    case atStart => exact ⟨0, by omega, rfl, HB1.out, HA1.out, HO1.out, HROW.out.ext fun q _ => by rw [if_neg (by omega)]⟩
    case round =>
      obtain ⟨k, hk, rfl, hI⟩ := hrel
      have HI := Lib.hid hI
      have k6 : wr.cell? ⟨w.heap.size, 6, none⟩ = some (.slice (some x) n c) := (cell_of_row _ _ 6 _ _ _ hI.2.1).trans rfl
      clear hI HB1 HA1 HO1 HROW
      by_cases hlt : k < n
      · obtain ⟨b, off, hx, hcell⟩ := HR0.out (by omega)
        cases hx
        have c1 : wr.cell? ⟨b, off + k * 2, none⟩ = some (.int .i32 (z (k * 2))) := (HI.out.1.cell (p := ⟨b, off + k * 2, none⟩) (block_lt_of_cell (a := ⟨b, off + k * 2, none⟩) (hcell (k * 2) (by omega)))).trans (hcell (k * 2) (by omega))
        have c2 : wr.cell? ⟨b, off + k * 2 + 1, none⟩ = some (.int .i32 (z (k * 2 + 1))) := (HI.out.1.cell (p := ⟨b, off + (k * 2 + 1), none⟩) (block_lt_of_cell (a := ⟨b, off + (k * 2 + 1), none⟩) (hcell (k * 2 + 1) (by omega)))).trans (hcell (k * 2 + 1) (by omega))
        clear hcell
        go_wp2_with (go_at_call 17; refine (rng17 _ _ _).mono ?_; rintro e w3 ⟨rfl, hb3⟩; have HI3 := Lib.hid (HI.out.below HG.out hb3); clear hb3; have r1 := HI3.out.2.2.2.cell (p := k * 2) (by omega); have r2 := HI3.out.2.2.2.cell (p := k * 2 + 1) (by omega); have f1 := HI3.out.2.2.2.frozen (k * 2); have f2 := HI3.out.2.2.2.frozen (k * 2 + 1))
        go_roundw
        case rel => exact ⟨k + 1, by omega, by go_num, HI3.out.put HG.out⟩
        case measure => simp [intOf]; omega
      · obtain rfl : n = k := by omega
        go_upto_region 8 with (fail)
        try simp only [Act.put, List.setIfInBounds_toArray, List.set_cons_zero, List.set_cons_succ]
        refine reg_use (ops := ops8_13) (by kernel_rfl) ?_
        refine reg8_13 w wr w.heap.size (w.heap.size + 1) p (some x) (some ⟨g, 0, none⟩) n c n n rfl rfl rfl rfl (by omega) (by omega) HI.out.1 HI.out.2.1 HI.out.2.2.1 ?_
        intro a' w' hd ha hb hk hR hle
        have hrow := HI.out.2.2.2
        have hg := HG.out
        repeat go_step
        refine bodyPost_ret (results_cell_row rfl _ _ (w.heap.size + 1) 36 _ (0, 0) _ ha hR Try.underlying36 rfl (by kernel_rfl)) hd ⟨some ⟨g, 0, none⟩, n, rfl, hb, .inr ⟨g, rfl, rfl, by omega, ((hrow.of_block (hk g hrow.lt (by omega))).ext fun q hq => by rw [if_pos (by omega)])⟩⟩
end Go.Proofs.Ytjomfebcigiekaa.de
