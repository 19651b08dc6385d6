/-
  The two modes, the list read back; the size of the arguments.
-/
import Derived.Test.YthhlioepgfjknaaRd
namespace Go.Proofs.Ythhlioepgfjknaa.rl
open Go.ChangeShapes Go.WideShapes Go.ChangeAt Go.RowKit Go.Deep Go.Proofs.Ythhlioepgfjknaa.ch
set_option linter.unusedVariables false
set_option linter.unusedSimpArgs false
set_option maxRecDepth 100000
set_option maxHeartbeats 4000000
theorem fin_nil {c : Prop} [Decidable c] (h : if c then NN .nilIface else True) : if c then NN .nilIface else (.nilIface : Value) = .nilIface := by
  split at h <;> simp_all
theorem modeEnd {w w1 W : World} {p s n : Nat} {mode : Int} {cur mod : Nat} {depth : Int} {R L : Nat → Nat} {has : Nat → Bool} {m ok : Bool} {d rv : Value} {l : Int} (hsz : w1.heap.size = w.heap.size + 1) (h1 : ch.Touch (fun b => b = p ∨ b = s) w w1) (hp : p < w.heap.size) (hs : s < w.heap.size)
    (hd : if ok = true ∧ cb m has n = true then NN d else d = .nilIface) (hc : W.cell? ⟨p, 196, none⟩ = some rv) (ho : Own w1.heap.size W rv (if ok = true then n else 0) (recs L R (if ok = true then n else 0))) (ht : ch.Touch (fun b => b = p ∨ b = s) w1 W) (d' : Value) :
    RelP w.heap.size w p s n mode cur mod depth R L has m ok (.returned (.tuple #[.agg #[d, .int .i32 l], .bool ok])) ((W.setCell ⟨w.heap.size, 0, none⟩ d').setCell ⟨w.heap.size, 1, none⟩ (.int .i32 l)) := by
  have hne : ∀ b, b ≠ w.heap.size → ((W.setCell ⟨w.heap.size, 0, none⟩ d').setCell ⟨w.heap.size, 1, none⟩ (.int .i32 l)).heap[b]? = W.heap[b]? := fun b hb => (Below.heap_setCell _ _ _ _ (by exact hb)).trans (Below.heap_setCell _ _ _ _ (by exact hb))
  have hx : ¬ w.heap.size < w.heap.size := by omega
  refine ⟨d, l, rv, rfl, hd, (World.cell?_of_block (a := ⟨p, 196, none⟩) (hne p (by omega))).trans hc, (ho.of_block fun b hb => hne b (fun e => ho.far (show w.heap.size < w1.heap.size by omega) (by rw [hb, e]))).base (by omega), ?_⟩
  exact ((glue h1 ht (fun _ _ h => h)).setCell ⟨w.heap.size, 0, none⟩ (fun h => absurd h hx) _).setCell ⟨w.heap.size, 1, none⟩ (fun h => absurd h hx) _
section
variable (w : World) (p s n : Nat) (mode : Int) (cur mod : Nat) (depth : Int) (d dc : Nat) (bi R L : Nat → Nat) (has : Nat → Bool) (m : Bool) (nc : Nat) (f : Nat → Bool)
theorem mode27 (H : St w p s n mode cur mod depth (.slice none 0 0)) (hS : Sc w mod f nc cur) (hD : De w d n bi R L has) (hn : n ≤ 65536) (hR : ∀ j, j < n → R j < n) (hds : d ≠ s) (hdp : d ≠ p) (hbp : ∀ j, j < n → bi j ≠ p ∧ bi j ≠ s) (ok : Bool) (hok : ok = true ↔ okB mode depth nc f) :
    Calls Try.prog 27 #[ptr p, .slice (some ⟨d, 0, none⟩) n dc] w (RelP w.heap.size w p s n mode cur mod depth R L has false ok) := by
  have hA : ∀ b, b < w.heap.size → (w.alloc (.cells #[.nilIface, .int .i32 0] 67)).heap[b]? = w.heap[b]? := fun b hb => Below.heap_alloc _ _ _ hb
  have HA := Lib.hid ((ch.Touch.refl (fun b => b = p ∨ b = s) w).alloc (.cells #[.nilIface, .int .i32 0] 67))
  have hlt := H.lt
  have HX := Lib.hid ((rel39 (w.alloc (.cells #[.nilIface, .int .i32 0] 67)) p s n mode cur mod depth d dc bi R L has false nc f (H.alloc _) (hS.keep fun b hb => hA b (by have := hS.lt; omega)) (by
    by_cases h0 : 0 < n
    · exact hD.keep (hA d (block_lt_of_cell (hD.cell 0 h0).1)) (fun j hj => hA _ (block_lt_of_cell (hD.box j hj).1))
    · exact ⟨fun j hj => absurd hj (by omega), fun j hj => absurd hj (by omega)⟩) hn hR hds hdp hbp ok hok))
  have hsz : (w.alloc (.cells #[.nilIface, .int .i32 0] 67)).heap.size = w.heap.size + 1 := by simp
  have hx4 : (w.alloc (.cells #[.nilIface, .int .i32 0] 67)).heap[w.heap.size]? = some (.cells #[.nilIface, .int .i32 0] 67 (0, 0)) := heap_alloc_new _ _
  have HX4 := Lib.hid hx4
  have HSZ := Lib.hid hsz
  clear H hS hD hok hR hbp hx4 hsz hA
  go_enter Try.func27, Try.ntmps27
  go_upto_region 1 with fail
  go_wp2_with (go_at_call 39; refine HX.out.mono ?_; rintro _ W ⟨d2, l2, rv2, rfl, hd, hc, ho, ht⟩; have HE := Lib.hid (And.intro hd (And.intro hc (And.intro ho ht))); have hdd : d2 = .nilIface ∨ NN d2 := (by { by_cases hb : ok = true ∧ cb false has n = true; · { rw [if_pos hb] at hd; exact .inr hd }; · { rw [if_neg hb] at hd; exact .inl hd } }); have m4 := (ht.block w.heap.size (by rw [HSZ.out]; omega) (by rintro (h | h) <;> omega)).trans HX4.out; have f0 : W.cell? ⟨w.heap.size, 0, none⟩ = some .nilIface := (by rw [cell_of_row W _ 0 _ _ _ m4]; rfl); have f1 : W.cell? ⟨w.heap.size, 1, none⟩ = some (.int .i32 0) := (by rw [cell_of_row W _ 1 _ _ _ m4]; rfl); have z0 : W.frozen? ⟨w.heap.size, 0, none⟩ = false := frozen_of_row W _ 0 _ _ m4; have z1 : W.frozen? ⟨w.heap.size, 1, none⟩ = false := frozen_of_row W _ 1 _ _ m4; clear hd hc ho ht m4; rcases hdd with rfl | ⟨T, bv, rfl⟩)
  rotate_left
  ·
    have z0' : ((W.setCell ⟨w.heap.size, 0, none⟩ (.iface T (ptr bv))).setCell ⟨w.heap.size, 1, none⟩ (.int .i32 l2)).cell? ⟨w.heap.size, 0, none⟩ = some ((.iface T (ptr bv))) := by go_simp
    have z1' : ((W.setCell ⟨w.heap.size, 0, none⟩ (.iface T (ptr bv))).setCell ⟨w.heap.size, 1, none⟩ (.int .i32 l2)).cell? ⟨w.heap.size, 1, none⟩ = some (.int .i32 l2) := by go_simp
    refine bodyPost_ret (v := .tuple #[.agg #[(.iface T (ptr bv)), .int .i32 l2], .bool ok]) (by simp [results, Try.results27, go_sem, z0', z1']) rfl (modeEnd HSZ.out (HA.out) hlt.1 hlt.2 HE.out.1 HE.out.2.1 HE.out.2.2.1 HE.out.2.2.2 (.iface T (ptr bv)))
  ·
    have z0' : ((W.setCell ⟨w.heap.size, 0, none⟩ .nilIface).setCell ⟨w.heap.size, 1, none⟩ (.int .i32 l2)).cell? ⟨w.heap.size, 0, none⟩ = some (.nilIface) := by go_simp
    have z1' : ((W.setCell ⟨w.heap.size, 0, none⟩ .nilIface).setCell ⟨w.heap.size, 1, none⟩ (.int .i32 l2)).cell? ⟨w.heap.size, 1, none⟩ = some (.int .i32 l2) := by go_simp
    refine bodyPost_ret (v := .tuple #[.agg #[.nilIface, .int .i32 l2], .bool ok]) (by simp [results, Try.results27, go_sem, z0', z1']) rfl (modeEnd HSZ.out (HA.out) hlt.1 hlt.2 (fin_nil HE.out.1) HE.out.2.1 HE.out.2.2.1 HE.out.2.2.2 .nilIface)
theorem mode28 (H : St w p s n mode cur mod depth (.slice none 0 0)) (hS : Sc w mod f nc cur) (hD : De w d n bi R L has) (hn : n ≤ 65536) (hR : ∀ j, j < n → R j < n) (hds : d ≠ s) (hdp : d ≠ p) (hbp : ∀ j, j < n → bi j ≠ p ∧ bi j ≠ s) (ok : Bool) (hok : ok = true ↔ okB mode depth nc f) :
    Calls Try.prog 28 #[ptr p, .slice (some ⟨d, 0, none⟩) n dc] w (RelP w.heap.size w p s n mode cur mod depth R L has true ok) := by
  have hA : ∀ b, b < w.heap.size → (w.alloc (.cells #[.nilIface, .int .i32 0] 67)).heap[b]? = w.heap[b]? := fun b hb => Below.heap_alloc _ _ _ hb
  have HA := Lib.hid ((ch.Touch.refl (fun b => b = p ∨ b = s) w).alloc (.cells #[.nilIface, .int .i32 0] 67))
  have hlt := H.lt
  have HX := Lib.hid ((rel39 (w.alloc (.cells #[.nilIface, .int .i32 0] 67)) p s n mode cur mod depth d dc bi R L has true nc f (H.alloc _) (hS.keep fun b hb => hA b (by have := hS.lt; omega)) (by
    by_cases h0 : 0 < n
    · exact hD.keep (hA d (block_lt_of_cell (hD.cell 0 h0).1)) (fun j hj => hA _ (block_lt_of_cell (hD.box j hj).1))
    · exact ⟨fun j hj => absurd hj (by omega), fun j hj => absurd hj (by omega)⟩) hn hR hds hdp hbp ok hok))
  have hsz : (w.alloc (.cells #[.nilIface, .int .i32 0] 67)).heap.size = w.heap.size + 1 := by simp
  have hx4 : (w.alloc (.cells #[.nilIface, .int .i32 0] 67)).heap[w.heap.size]? = some (.cells #[.nilIface, .int .i32 0] 67 (0, 0)) := heap_alloc_new _ _
  have HX4 := Lib.hid hx4
  have HSZ := Lib.hid hsz
  clear H hS hD hok hR hbp hx4 hsz hA
  go_enter Try.func28, Try.ntmps28
  go_upto_region 1 with fail
  go_wp2_with (go_at_call 39; refine HX.out.mono ?_; rintro _ W ⟨d2, l2, rv2, rfl, hd, hc, ho, ht⟩; have HE := Lib.hid (And.intro hd (And.intro hc (And.intro ho ht))); have hdd : d2 = .nilIface ∨ NN d2 := (by { by_cases hb : ok = true ∧ cb true has n = true; · { rw [if_pos hb] at hd; exact .inr hd }; · { rw [if_neg hb] at hd; exact .inl hd } }); have m4 := (ht.block w.heap.size (by rw [HSZ.out]; omega) (by rintro (h | h) <;> omega)).trans HX4.out; have f0 : W.cell? ⟨w.heap.size, 0, none⟩ = some .nilIface := (by rw [cell_of_row W _ 0 _ _ _ m4]; rfl); have f1 : W.cell? ⟨w.heap.size, 1, none⟩ = some (.int .i32 0) := (by rw [cell_of_row W _ 1 _ _ _ m4]; rfl); have z0 : W.frozen? ⟨w.heap.size, 0, none⟩ = false := frozen_of_row W _ 0 _ _ m4; have z1 : W.frozen? ⟨w.heap.size, 1, none⟩ = false := frozen_of_row W _ 1 _ _ m4; clear hd hc ho ht m4; rcases hdd with rfl | ⟨T, bv, rfl⟩)
  rotate_left
  ·
    have z0' : ((W.setCell ⟨w.heap.size, 0, none⟩ (.iface T (ptr bv))).setCell ⟨w.heap.size, 1, none⟩ (.int .i32 l2)).cell? ⟨w.heap.size, 0, none⟩ = some ((.iface T (ptr bv))) := by go_simp
    have z1' : ((W.setCell ⟨w.heap.size, 0, none⟩ (.iface T (ptr bv))).setCell ⟨w.heap.size, 1, none⟩ (.int .i32 l2)).cell? ⟨w.heap.size, 1, none⟩ = some (.int .i32 l2) := by go_simp
    refine bodyPost_ret (v := .tuple #[.agg #[(.iface T (ptr bv)), .int .i32 l2], .bool ok]) (by simp [results, Try.results28, go_sem, z0', z1']) rfl (modeEnd HSZ.out (HA.out) hlt.1 hlt.2 HE.out.1 HE.out.2.1 HE.out.2.2.1 HE.out.2.2.2 (.iface T (ptr bv)))
  ·
    have z0' : ((W.setCell ⟨w.heap.size, 0, none⟩ .nilIface).setCell ⟨w.heap.size, 1, none⟩ (.int .i32 l2)).cell? ⟨w.heap.size, 0, none⟩ = some (.nilIface) := by go_simp
    have z1' : ((W.setCell ⟨w.heap.size, 0, none⟩ .nilIface).setCell ⟨w.heap.size, 1, none⟩ (.int .i32 l2)).cell? ⟨w.heap.size, 1, none⟩ = some (.int .i32 l2) := by go_simp
    refine bodyPost_ret (v := .tuple #[.agg #[.nilIface, .int .i32 l2], .bool ok]) (by simp [results, Try.results28, go_sem, z0', z1']) rfl (modeEnd HSZ.out (HA.out) hlt.1 hlt.2 (fin_nil HE.out.1) HE.out.2.1 HE.out.2.2.1 HE.out.2.2.2 .nilIface)
theorem vars29 (rv : Value) (a : Option Addr) (k c : Nat) (hrv : rv = .slice a k c) (H : w.cell? ⟨p, 196, none⟩ = some rv) : Calls Try.prog 29 #[ptr p] w fun e w' => e = .returned rv ∧ w = w' := by
  subst hrv
  go_enter Try.func29, Try.ntmps29
  go_wp2_with fail
  go_ret
  exact ⟨rfl, rfl⟩
end
theorem bytes25 (w : World) (x0 x1 : Int) (a b c : Option Addr) (l1 l2 l3 c1 c2 c3 : Nat) (h1 : l1 ≤ maxLen) (h2 : l2 ≤ maxLen) (h3 : l3 ≤ maxLen) : Calls Try.prog 25 #[.int .u8 x0, .int .i64 x1, .slice a l1 c1, .slice b l2 c2, .slice c l3 c3] w fun e w' => (∃ r, e = .returned (.bool r)) ∧ w = w' := by
  have hm : maxLen = 9223372036854775807 := rfl
  by_cases e1 : l1 ≤ 1048576
  · have d1 : decide ((1048576 : Int) < (l1 : Int)) = false := by simp; omega
    by_cases e2 : l2 ≤ 1048576
    · have d2 : decide ((1048576 : Int) < (l2 : Int)) = false := by simp; omega
      by_cases e3 : l3 ≤ 1048576
      · have d3 : decide ((1048576 : Int) < (l3 : Int)) = false := by simp; omega
        by_cases e4 : l1 + l2 ≤ 1048576
        · have d4 : decide ((1048576 : Int) < (l1 : Int) + (l2 : Int)) = false := by simp; omega
          by_cases e5 : l1 + l2 + l3 ≤ 1048576
          · have d5 : decide ((1048576 : Int) < (l1 : Int) + (l2 : Int) + (l3 : Int)) = false := by simp; omega
            have k1 : l1 < 2000000 := by omega
            have k2 : l2 < 2000000 := by omega
            have k3 : l3 < 2000000 := by omega
            clear e1 e2 e3 e4 e5 h1 h2 h3 hm
            go_enter Try.func25, Try.ntmps25
            go_wp2_with fail
            go_ret
            exact ⟨⟨_, rfl⟩, rfl⟩
          · have d5 : decide ((1048576 : Int) < (l1 : Int) + (l2 : Int) + (l3 : Int)) = true := by simp; omega
            have k1 : l1 < 2000000 := by omega
            have k2 : l2 < 2000000 := by omega
            have k3 : l3 < 2000000 := by omega
            clear e1 e2 e3 e4 e5 h1 h2 h3 hm
            go_enter Try.func25, Try.ntmps25
            go_wp2_with fail
            go_ret
            exact ⟨⟨_, rfl⟩, rfl⟩
        · have d4 : decide ((1048576 : Int) < (l1 : Int) + (l2 : Int)) = true := by simp; omega
          have k1 : l1 < 2000000 := by omega
          have k2 : l2 < 2000000 := by omega
          clear e1 e2 e3 e4 h1 h2 h3 hm
          go_enter Try.func25, Try.ntmps25
          go_wp2_with fail
          go_ret
          exact ⟨⟨_, rfl⟩, rfl⟩
      · have d3 : decide ((1048576 : Int) < (l3 : Int)) = true := by simp; omega
        by_cases e4 : l1 + l2 ≤ 1048576
        · have d4 : decide ((1048576 : Int) < (l1 : Int) + (l2 : Int)) = false := by simp; omega
          have k1 : l1 < 2000000 := by omega
          have k2 : l2 < 2000000 := by omega
          clear e1 e2 e3 e4 h1 h2 h3 hm
          go_enter Try.func25, Try.ntmps25
          go_wp2_with fail
          go_ret
          exact ⟨⟨_, rfl⟩, rfl⟩
        · have d4 : decide ((1048576 : Int) < (l1 : Int) + (l2 : Int)) = true := by simp; omega
          have k1 : l1 < 2000000 := by omega
          have k2 : l2 < 2000000 := by omega
          clear e1 e2 e3 e4 h1 h2 h3 hm
          go_enter Try.func25, Try.ntmps25
          go_wp2_with fail
          go_ret
          exact ⟨⟨_, rfl⟩, rfl⟩
    · have d2 : decide ((1048576 : Int) < (l2 : Int)) = true := by simp; omega
      have k1 : l1 < 2000000 := by omega
      clear e1 e2 h1 h2 h3 hm
      go_enter Try.func25, Try.ntmps25
      go_wp2_with fail
      go_ret
      exact ⟨⟨_, rfl⟩, rfl⟩
  · have d1 : decide ((1048576 : Int) < (l1 : Int)) = true := by simp; omega
    clear e1 h1 h2 h3 hm
    go_enter Try.func25, Try.ntmps25
    go_wp2_with fail
    go_ret
    exact ⟨⟨_, rfl⟩, rfl⟩
end Go.Proofs.Ythhlioepgfjknaa.rl
