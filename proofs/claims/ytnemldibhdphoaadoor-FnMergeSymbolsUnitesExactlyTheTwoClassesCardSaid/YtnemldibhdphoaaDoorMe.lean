/-
  Symbols: mergeSymbols.
-/
import Derived.Test.YtnemldibhdphoaaDoorSy
namespace Go.Proofs.YtnemldibhdphoaaDoor.lk
open Go.ChangeShapes Go.WideShapes Go.ChangeAt Go.RowKit Go.Deep
set_option linter.unusedVariables false
set_option linter.unusedSimpArgs false

def MgP (w : World) (g B n c : Nat) (l : Nat → Option Nat) (old new ro rn : Nat) (e : Ending) (w' : World) : Prop :=
  ∃ l' got, e = .returned (.agg #[.int .u32 0, .int .u32 (got : Nat)]) ∧ Mg n l l' old new ro rn got ∧ Pr w' g B n c l' ∧ Touch (fun k => k = B) w w'
/-- What a call holds beside the table: its two arguments and its answer, in blocks of their own. -/
structure Bx (w : World) (H B old new : Nat) (w' : World) : Prop where
  o0 : w'.cell? ⟨H, 0, none⟩ = some (.int .u32 0)
  o1 : w'.cell? ⟨H, 1, none⟩ = some (.int .u32 old)
  n0 : w'.cell? ⟨H + 1, 0, none⟩ = some (.int .u32 0)
  n1 : w'.cell? ⟨H + 1, 1, none⟩ = some (.int .u32 new)
  r0 : w'.cell? ⟨H + 1 + 1, 0, none⟩ = some (.int .u32 0)
  r1 : w'.cell? ⟨H + 1 + 1, 1, none⟩ = some (.int .u32 0)
  f0 : w'.frozen? ⟨H + 1 + 1, 0, none⟩ = false
  f1 : w'.frozen? ⟨H + 1 + 1, 1, none⟩ = false
  hH : H = w.heap.size
  hB : B < H
  lt : H + 2 < w'.heap.size
  tch : Touch (fun k => k = B) w w'
theorem Bx.start (w : World) (B old new : Nat) (hB : B < w.heap.size) : Bx w w.heap.size B old new (((w.alloc (.cells #[.int .u32 0, .int .u32 old] 161)).alloc (.cells #[.int .u32 0, .int .u32 new] 161)).alloc (.cells #[.int .u32 0, .int .u32 0] 161)) := by
  have s1 : (w.alloc (.cells #[.int .u32 0, .int .u32 old] 161)).heap.size = w.heap.size + 1 := by simp
  have s2 : ((w.alloc (.cells #[.int .u32 0, .int .u32 old] 161)).alloc (.cells #[.int .u32 0, .int .u32 new] 161)).heap.size = w.heap.size + 2 := by simp
  have b1 : (((w.alloc (.cells #[.int .u32 0, .int .u32 old] 161)).alloc (.cells #[.int .u32 0, .int .u32 new] 161)).alloc (.cells #[.int .u32 0, .int .u32 0] 161)).heap[w.heap.size]? = some (.cells #[.int .u32 0, .int .u32 old] 161 (0, 0)) := by
    rw [Below.heap_alloc _ _ _ (by omega), Below.heap_alloc _ _ _ (by omega)]; exact heap_alloc_new w _
  have b2 : (((w.alloc (.cells #[.int .u32 0, .int .u32 old] 161)).alloc (.cells #[.int .u32 0, .int .u32 new] 161)).alloc (.cells #[.int .u32 0, .int .u32 0] 161)).heap[w.heap.size + 1]? = some (.cells #[.int .u32 0, .int .u32 new] 161 (0, 0)) := by
    rw [Below.heap_alloc _ _ _ (by omega), ← s1]; exact heap_alloc_new _ _
  have b3 : (((w.alloc (.cells #[.int .u32 0, .int .u32 old] 161)).alloc (.cells #[.int .u32 0, .int .u32 new] 161)).alloc (.cells #[.int .u32 0, .int .u32 0] 161)).heap[w.heap.size + 1 + 1]? = some (.cells #[.int .u32 0, .int .u32 0] 161 (0, 0)) := by
    rw [← s2]; exact heap_alloc_new _ _
  exact ⟨cell_of_row _ _ 0 _ _ _ b1, cell_of_row _ _ 1 _ _ _ b1, cell_of_row _ _ 0 _ _ _ b2, cell_of_row _ _ 1 _ _ _ b2, cell_of_row _ _ 0 _ _ _ b3, cell_of_row _ _ 1 _ _ _ b3, frozen_of_row _ _ 0 _ _ b3, frozen_of_row _ _ 1 _ _ b3, rfl, hB, by simp, (((Touch.refl _ w).alloc _).alloc _).alloc _⟩
theorem Bx.touch {w w' w2 : World} {H B old new : Nat} (h : Bx w H B old new w') (ht : Touch (fun k => k = B) w' w2) : Bx w H B old new w2 := by
  have hl := h.lt; have hb := h.hB
  have c : ∀ b j, b ≤ H + 2 → H ≤ b → w2.cell? ⟨b, j, none⟩ = w'.cell? ⟨b, j, none⟩ := fun b j h1 h2 => World.cell?_of_block (a := ⟨b, j, none⟩) (ht.block b (by omega) (by omega))
  have f : ∀ b j, b ≤ H + 2 → H ≤ b → w2.frozen? ⟨b, j, none⟩ = w'.frozen? ⟨b, j, none⟩ := fun b j h1 h2 => World.frozen?_of_block (a := ⟨b, j, none⟩) (ht.block b (by omega) (by omega))
  exact ⟨(c _ _ (by omega) (by omega)).trans h.o0, (c _ _ (by omega) (by omega)).trans h.o1, (c _ _ (by omega) (by omega)).trans h.n0, (c _ _ (by omega) (by omega)).trans h.n1, (c _ _ (by omega) (by omega)).trans h.r0, (c _ _ (by omega) (by omega)).trans h.r1, (f _ _ (by omega) (by omega)).trans h.f0, (f _ _ (by omega) (by omega)).trans h.f1, h.hH, h.hB, Nat.lt_of_lt_of_le hl ht.size, h.tch.trans ht⟩
theorem MgP.fin {w w' : World} {g B n c : Nat} {l l' : Nat → Option Nat} {old new ro rn got H : Nat} (hb : Bx w H B old new w') (hP : Pr w' g B n c l') (hM : Mg n l l' old new ro rn got) (v0 v1 : Value) :
    MgP w g B n c l old new ro rn (.returned (.agg #[.int .u32 0, .int .u32 (got : Nat)])) ((w'.setCell ⟨H + 1 + 1, 0, none⟩ v0).setCell ⟨H + 1 + 1, 1, none⟩ v1) := by
  have h1 := hb.hB; have h2 := hb.hH; have h3 := hP.gB; have h4 := hP.g0
  refine ⟨l', got, rfl, hM, hP.keep (by rw [szSet, szSet]; exact Nat.le_refl _) (fun b hbb => ?_), (hb.tch.setCell _ (fun hlt => ?_) _).setCell _ (fun hlt => ?_) _⟩
  · exact (Below.heap_setCell _ _ _ _ (by show b ≠ H + 2; omega)).trans (Below.heap_setCell _ _ _ _ (by show b ≠ H + 2; omega))
  · exfalso; have : H + 2 < w.heap.size := hlt; omega
  · exfalso; have : H + 2 < w.heap.size := hlt; omega
theorem belDrew (w : World) : Below w.heap.size w w.drew := ⟨rfl, rfl, rfl, Nat.le_refl _, fun _ _ => rfl⟩
set_option maxRecDepth 100000 in
set_option maxHeartbeats 4000000 in
theorem merge14 : ∀ (m : Nat) (w : World) (g B n c : Nat) (l : Nat → Option Nat) (old new ro rn d1 d2 : Nat), Pr w g B n c l → old < n → new < n → Dp l old ro d1 → Dp l new rn d2 → d1 + d2 ≤ m →
    Calls Tryd.prog 14 #[.pointer (some ⟨g, 0, none⟩), .agg #[.int .u32 0, .int .u32 old], .agg #[.int .u32 0, .int .u32 new]] w (MgP w g B n c l old new ro rn) := by
  intro m
  induction m using Nat.strongRecOn with
  | ind m ih =>
    intro w g B n c l old new ro rn d1 d2 hP ho hn hd1 hd2 hm
    have HP := Lib.hid hP
    have hB := hP.lt
    have hsm := hP.small
    have hnc := hP.nc
    have HX0 := Lib.hid (Bx.start w B old new hB)
    have HP0 : Hid (Pr (((w.alloc (.cells #[.int .u32 0, .int .u32 old] 161)).alloc (.cells #[.int .u32 0, .int .u32 new] 161)).alloc (.cells #[.int .u32 0, .int .u32 0] 161)) g B n c l) := Lib.hid (hP.below ((((Below.refl _ w).alloc (Nat.le_refl _) _).alloc (by simp) _).alloc (by simp; omega) _))
    have HI := Lib.hid ih
    have HD1 := Lib.hid hd1
    have HD2 := Lib.hid hd2
    have HM := Lib.hid hm
    clear hP ih hd1 hd2 hm
    by_cases hon : old = new
    · subst hon
      have hq := fun w => eql161 w 0 old 0 old true (by simp)
      go_enter Tryd.func14, Tryd.ntmps14
      go_wp2_with fail
      have hrr : ro = rn := (HD1.out.uniq HD2.out).1
      subst hrr
      refine bodyPost_ret (v := .agg #[.int .u32 0, .int .u32 old]) (by simp [results, Tryd.results14, go_sem]) rfl ?_
      refine ⟨l, old, rfl, Mg.same HP.out.fits ho ⟨_, HD1.out⟩, HP.out.below ((((Below.refl _ w).alloc (Nat.le_refl _) _).alloc (by simp) _).alloc (by simp; omega) _), (((Touch.refl _ w).alloc _).alloc _).alloc _⟩
    · have hq := fun w => eql161 w 0 old 0 new false (by simp; omega)
      go_enter Tryd.func14, Tryd.ntmps14
      go_wp2_with fail
      generalize ((w.alloc (.cells #[.int .u32 0, .int .u32 old] 161)).alloc (.cells #[.int .u32 0, .int .u32 new] 161)).alloc (.cells #[.int .u32 0, .int .u32 0] 161) = w3 at *
      clear hq
      have c106 := HP0.out.c106
      have o1 := HX0.out.o1
      go_region
      have HX := Lib.hid (HX0.out.touch (Touch.refl _ _).drew)
      have HP1 := Lib.hid (HP0.out.below (belDrew w3))
      clear c106 o1 HX0 HP0
      generalize w3.drew = w4 at *
      obtain ⟨v1, v2⟩ := HP1.out.inv
      have k0 := HP1.out.lk0 old ho
      have k1 := HP1.out.lk1 old ho
      cases hl : l old with
      | some o' =>
        rw [hl] at k0 k1
        simp only [la, lb] at k0 k1
        have hq2 : ∀ w, (binOp .neq 161 (.agg #[.int .u32 0, .int .u32 (o' : Nat)]) (.agg #[.int .u32 4294967295, .int .u32 4294967295])).run Tryd.prog w = .ok (.bool true) w := fun w => neq161 w 0 o' 4294967295 4294967295 false rfl
        have HL := Lib.hid hl
        clear hl
        go_wp2_with fail
        go_region
        clear hq2 v1 v2
        go_wp2_with fail
        have HX5 := Lib.hid (HX.out.touch (Touch.refl _ _).drew)
        have HP5 := Lib.hid (HP1.out.below (belDrew w4))
        clear k0 k1 HX HP1
        generalize w4.drew = w5 at *
        obtain ⟨dd, hdd, HDD⟩ : ∃ dd, d1 = dd + 1 ∧ Hid (Dp l o' ro dd) := by
          have h1 := HD1.out
          cases h1 with
          | here h2 => rw [HL.out] at h2; cases h2
          | step h2 h3 => rw [HL.out] at h2; cases h2; exact ⟨_, rfl, Lib.hid h3⟩
        have ho' : o' < n := HP5.out.fits old o' ho HL.out
        have k0 := HP5.out.lk0 old ho
        have k1 := HP5.out.lk1 old ho
        rw [HL.out] at k0 k1
        simp only [la, lb] at k0 k1
        have n0 := HX5.out.n0
        have n1 := HX5.out.n1
        have HDm : Hid (dd + d2 < m) := Lib.hid (by have := HM.out; omega)
        clear hdd
        go_region_with (go_at_call 14; go_loud (refine (HI.out (dd + d2) HDm.out _ g B n c l o' new ro rn dd d2 (HP5.out.below (belDrew _)) ho' hn HDD.out HD2.out (Nat.le_refl _)).mono ?_; rintro e w6 ⟨l', got, rfl, hM, hP6, hT6⟩; have HM6 := Lib.hid hM; have HP6 := Lib.hid hP6; have HX6 := Lib.hid ((HX5.out.touch (Touch.refl _ _).drew).touch hT6); have q0 := hP6.lk0 old ho; have q1 := hP6.lk1 old ho; have q2 := hP6.frz (old * 10 + 2); have q3 := hP6.frz (old * 10 + 3); clear hM hP6 hT6))
        all_goals
          have r0 := HX6.out.r0
          have r1 := HX6.out.r1
          have f0 := HX6.out.f0
          have f1 := HX6.out.f1
          go_wp2_with fail
          have hgot : got < n := HM6.out.2.2.2.2.2
          refine bodyPost_ret (v := .agg #[.int .u32 0, .int .u32 (got : Nat)]) ?_ rfl (MgP.fin (HX6.out.touch (((Touch.refl (fun k => k = B) w6).setCell ⟨B, old * 10 + 2, none⟩ (fun _ => rfl) _).setCell ⟨B, old * 10 + 3, none⟩ (fun _ => rfl) _)) (HP6.out.link ho hgot) (Mg.old HL.out HM6.out) _ _)
          simp [results, Tryd.results14, go_sem, r0, r1, f0, f1, q0, q1, q2, q3]
      | none =>
        rw [hl] at k0 k1
        simp only [la, lb] at k0 k1
        have hq2 : ∀ w, (binOp .neq 161 (.agg #[.int .u32 4294967295, .int .u32 4294967295]) (.agg #[.int .u32 4294967295, .int .u32 4294967295])).run Tryd.prog w = .ok (.bool false) w := fun w => neq161 w 4294967295 4294967295 4294967295 4294967295 true rfl
        have HL := Lib.hid hl
        clear hl
        go_wp2_with fail
        go_region
        clear hq2 v1 v2
        go_wp2_with fail
        have HX5 := Lib.hid (HX.out.touch (Touch.refl _ _).drew)
        have HP5 := Lib.hid (HP1.out.below (belDrew w4))
        clear k0 k1 HX HP1
        generalize w4.drew = w5 at *
        have c106 := HP5.out.c106
        have n1 := HX5.out.n1
        go_region
        have HX7 := Lib.hid (HX5.out.touch (Touch.refl _ _).drew)
        have HP7 := Lib.hid (HP5.out.below (belDrew w5))
        clear c106 n1 HX5 HP5
        generalize w5.drew = w7 at *
        obtain ⟨v1, v2⟩ := HP7.out.inv
        have k0 := HP7.out.lk0 new hn
        have k1 := HP7.out.lk1 new hn
        cases hl2 : l new with
        | some n' =>
          rw [hl2] at k0 k1
          simp only [la, lb] at k0 k1
          have hq2 : ∀ w, (binOp .neq 161 (.agg #[.int .u32 0, .int .u32 (n' : Nat)]) (.agg #[.int .u32 4294967295, .int .u32 4294967295])).run Tryd.prog w = .ok (.bool true) w := fun w => neq161 w 0 n' 4294967295 4294967295 false rfl
          have HL2 := Lib.hid hl2
          clear hl2
          go_wp2_with fail
          go_region
          clear hq2 v1 v2
          go_wp2_with fail
          have HX8 := Lib.hid (HX7.out.touch (Touch.refl _ _).drew)
          have HP8 := Lib.hid (HP7.out.below (belDrew w7))
          clear k0 k1 HX7 HP7
          generalize w7.drew = w8 at *
          obtain ⟨dd, hdd, HDD⟩ : ∃ dd, d2 = dd + 1 ∧ Hid (Dp l n' rn dd) := by
            have h1 := HD2.out
            cases h1 with
            | here h2 => rw [HL2.out] at h2; cases h2
            | step h2 h3 => rw [HL2.out] at h2; cases h2; exact ⟨_, rfl, Lib.hid h3⟩
          have hn' : n' < n := HP8.out.fits new n' hn HL2.out
          have k0 := HP8.out.lk0 new hn
          have k1 := HP8.out.lk1 new hn
          rw [HL2.out] at k0 k1
          simp only [la, lb] at k0 k1
          have o0 := HX8.out.o0
          have o1 := HX8.out.o1
          have HDm : Hid (d1 + dd < m) := Lib.hid (by have := HM.out; omega)
          clear hdd
          go_region_with (go_at_call 14; go_loud (refine (HI.out (d1 + dd) HDm.out _ g B n c l old n' ro rn d1 dd (HP8.out.below (belDrew _)) ho hn' HD1.out HDD.out (Nat.le_refl _)).mono ?_; rintro e w6 ⟨l', got, rfl, hM, hP6, hT6⟩; have HM6 := Lib.hid hM; have HP6 := Lib.hid hP6; have HX6 := Lib.hid ((HX8.out.touch (Touch.refl _ _).drew).touch hT6); have q0 := hP6.lk0 new hn; have q1 := hP6.lk1 new hn; have q2 := hP6.frz (new * 10 + 2); have q3 := hP6.frz (new * 10 + 3); clear hM hP6 hT6))
          all_goals
            have r0 := HX6.out.r0
            have r1 := HX6.out.r1
            have f0 := HX6.out.f0
            have f1 := HX6.out.f1
            go_wp2_with fail
            have hgot : got < n := HM6.out.2.2.2.2.2
            refine bodyPost_ret (v := .agg #[.int .u32 0, .int .u32 (got : Nat)]) ?_ rfl (MgP.fin (HX6.out.touch (((Touch.refl (fun k => k = B) w6).setCell ⟨B, new * 10 + 2, none⟩ (fun _ => rfl) _).setCell ⟨B, new * 10 + 3, none⟩ (fun _ => rfl) _)) (HP6.out.link hn hgot) (Mg.new HL2.out HM6.out) _ _)
            simp [results, Tryd.results14, go_sem, r0, r1, f0, f1, q0, q1, q2, q3]
        | none =>
          rw [hl2] at k0 k1
          simp only [la, lb] at k0 k1
          have hq2 : ∀ w, (binOp .neq 161 (.agg #[.int .u32 4294967295, .int .u32 4294967295]) (.agg #[.int .u32 4294967295, .int .u32 4294967295])).run Tryd.prog w = .ok (.bool false) w := fun w => neq161 w 4294967295 4294967295 4294967295 4294967295 true rfl
          have HL2 := Lib.hid hl2
          clear hl2
          go_wp2_with fail
          go_region
          clear hq2 v1 v2
          have HX8 := Lib.hid (HX7.out.touch (Touch.refl _ _).drew)
          have HP8 := Lib.hid (HP7.out.below (belDrew w7))
          clear k0 k1 HX7 HP7
          generalize w7.drew = w8 at *
          have n0 := HX8.out.n0
          have n1 := HX8.out.n1
          have k0 := HP8.out.lk0 old ho
          have k1 := HP8.out.lk1 old ho
          have k2 := HP8.out.frz (old * 10 + 2)
          have k3 := HP8.out.frz (old * 10 + 3)
          go_wp2_with fail
          have HP9 := Lib.hid (HP8.out.link ho hn)
          have HX9 := Lib.hid (HX8.out.touch (((Touch.refl (fun k => k = B) w8).setCell ⟨B, old * 10 + 2, none⟩ (fun _ => rfl) (.int .u32 0)).setCell ⟨B, old * 10 + 3, none⟩ (fun _ => rfl) (.int .u32 (new : Nat))))
          refine (cont15 _ g B n c _ new old HP9.out hn ho).mono ?_
          rintro e w10 ⟨rfl, hP10, hT10⟩
          have HP10 := Lib.hid hP10
          have HX10 := Lib.hid (HX9.out.touch hT10)
          clear hP10 hT10 k0 k1 k2 k3 n0 n1
          have n0 := HX10.out.n0
          have n1 := HX10.out.n1
          have r0 := HX10.out.r0
          have r1 := HX10.out.r1
          have f0 := HX10.out.f0
          have f1 := HX10.out.f1
          go_simp
          go_wp2_with fail
          obtain rfl : ro = old := by
            have h1 := HD1.out
            cases h1 with
            | here => rfl
            | step h2 => rw [HL.out] at h2; cases h2
          obtain rfl : rn = new := by
            have h1 := HD2.out
            cases h1 with
            | here => rfl
            | step h2 => rw [HL2.out] at h2; cases h2
          refine bodyPost_ret (v := .agg #[.int .u32 0, .int .u32 (rn : Nat)]) ?_ rfl (MgP.fin HX10.out HP10.out (Mg.both HP.out.fits hn HL.out HL2.out hon) _ _)
          simp [results, Tryd.results14, go_sem, r0, r1, f0, f1]
end Go.Proofs.YtnemldibhdphoaaDoor.lk
