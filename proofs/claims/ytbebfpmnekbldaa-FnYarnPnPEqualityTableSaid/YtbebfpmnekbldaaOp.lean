/-
  Options: law 4.
-/
import Derived.Test.YtbebfpmnekbldaaOo
import Derived.Deep.CutBlock

namespace Go.Proofs.Ytbebfpmnekbldaa.op
open Go.ChangeShapes Go.WideShapes Go.ChangeAt Go.RowKit Go.Deep
set_option linter.unusedVariables false
set_option linter.unusedSimpArgs false
set_option maxRecDepth 100000
set_option maxHeartbeats 1000000
theorem walk4 (w : World) : Calls Try.prog 3 #[] w fun e w' => e = .returned (.bool true) ∧ Below w.heap.size w w' := by
  have H : Held w [] := fun p hp => absurd hp (by simp)
  have BB : Below w.heap.size w w := Below.refl _ _
  go_enter Try.func3, Try.ntmps3
  go_upto_region 5 with (first | (go_at_call 7; refine (yarn7o _).mono ?_; rintro e w1 ⟨rfl, hb1⟩; replace H := H.below hb1; replace BB := BB.trans (hb1.mono BB.size); clear hb1) | (go_at_call 8; refine (build8o _ 0 ByteArray.empty 0 0 0 true true none 0 0 (fun _ => ByteArray.empty) ⟨by omega, by omega⟩ (by omega) (fun h => absurd h (by omega)) (fun _ => ⟨rfl, rfl⟩)).mono ?_; rintro e w3 ⟨oe, rfl, ok, hm, hr, hy, hl, hV, he, hf, hg, hh, hbb, hb1⟩; replace H := H.below hb1; replace BB := BB.trans (hb1.mono BB.size); have SE : zO.Same oe := (by refine ⟨he.symm, hf.symm, hg.symm, hh.symm, fun i hi => by rw [hbb]; exact (bitB_zero i).symm, hy.symm, by rw [hm]; rfl, by rw [hr]; rfl, hl.symm, fun i hi => by cases hi⟩); have SEH := Lib.hid SE; have OKH := Lib.hid ok; clear hb1 hm hr hy hl hV he hf hg hh hbb SE ok) | (refine Go.Great.wpList_allocTo rfl (some 3) rfl (.pointer (some ⟨_, 0, none⟩)) (.cells oz 60) (alloc60_run _ _ rfl _) ?_; have H1 := H.add zO (zO_ok _); rw [zO_cells] at H1; replace H := H1; clear H1; replace BB := BB.alloc BB.size (.cells oz 60)) | (refine Go.Great.wpList_allocTo rfl _ rfl (.pointer (some ⟨_, 0, none⟩)) (.cells oz 60) (alloc60_run _ _ rfl _) ?_) | (refine wpList_store_row rfl 60 _ _ rfl _ oe.cells rfl rfl 60 oz (heap_alloc_new _ _) (by rw [Opt.size]; kernel_rfl) (by rw [Opt.size]; kernel_rfl) (by kernel_rfl) ?_; rw [World.setRow_alloc_new]; replace H := H.add oe OKH.out; replace BB := BB.alloc BB.size (.cells oe.cells 60)) | (refine wpList_store_row rfl 60 _ _ rfl _ yO.cells rfl rfl 60 oz (heap_alloc_new _ _) (by rw [Opt.size]; kernel_rfl) (by rw [Opt.size]; kernel_rfl) (by kernel_rfl) ?_; rw [World.setRow_alloc_new]; replace H := H.add yO (yO_ok _); replace BB := BB.alloc BB.size (.cells yO.cells 60)))
  have hz : ∀ (x : World) (o : Obj), (x.alloc o).heap.size = x.heap.size + 1 := fun x o => by simp
  rw [hz] at H
  have SE := SEH.out
  generalize w3.alloc _ = wc at *
  refine wp_region_list ?_
  simp only [Act.put, List.setIfInBounds_toArray, List.set_cons_zero, List.set_cons_succ]
  refine wpList_step (fun K hK => ?_)
  rw [if_pos (by kernel_rfl)]
  refine k_ld H _ rfl _ yO (by simp) rfl (hK _ _ ?_)
  clear hK K
  simp only [Act.put, List.setIfInBounds_toArray, List.set_cons_zero, List.set_cons_succ]
  refine wpList_step (fun K hK => ?_)
  rw [if_pos (by kernel_rfl)]
  refine k_ld H _ rfl _ yO (by simp) rfl (hK _ _ ?_)
  clear hK K
  simp only [Act.put, List.setIfInBounds_toArray, List.set_cons_zero, List.set_cons_succ]
  refine wpList_step (fun K hK => ?_)
  rw [if_pos (by kernel_rfl)]
  refine k_eq H yO yO (by simp) (by simp) true (iff_of_true rfl (Opt.Same.refl _)) (by kernel_rfl) fun w2 hb2 H2 => hK _ _ ?_
  replace BB := BB.trans (hb2.mono BB.size)
  clear H
  replace H := H2
  clear H2 hb2
  clear hK K
  simp only [Act.put, List.setIfInBounds_toArray, List.set_cons_zero, List.set_cons_succ]
  refine wpList_step (fun K hK => ?_)
  rw [if_pos (by kernel_rfl)]
  refine k_val (v := .bool true) (by kernel_rfl) (hK _ _ ?_)
  clear hK K
  simp only [Act.put, List.setIfInBounds_toArray, List.set_cons_zero, List.set_cons_succ]
  refine wpList_step (fun K hK => ?_)
  rw [if_pos (by kernel_rfl)]
  refine k_ld H _ rfl _ yO (by simp) rfl (hK _ _ ?_)
  clear hK K
  simp only [Act.put, List.setIfInBounds_toArray, List.set_cons_zero, List.set_cons_succ]
  refine wpList_step (fun K hK => ?_)
  rw [if_pos (by kernel_rfl)]
  refine k_ld H _ rfl _ yO (by simp) rfl (hK _ _ ?_)
  clear hK K
  simp only [Act.put, List.setIfInBounds_toArray, List.set_cons_zero, List.set_cons_succ]
  refine wpList_step (fun K hK => ?_)
  rw [if_pos (by kernel_rfl)]
  refine k_eq H yO yO (by simp) (by simp) true (iff_of_true rfl (Opt.Same.refl _)) (by kernel_rfl) fun w2 hb2 H2 => hK _ _ ?_
  replace BB := BB.trans (hb2.mono BB.size)
  clear H
  replace H := H2
  clear H2 hb2
  clear hK K
  simp only [Act.put, List.setIfInBounds_toArray, List.set_cons_zero, List.set_cons_succ]
  refine wpList_step (fun K hK => ?_)
  rw [if_pos (by kernel_rfl)]
  refine k_val (v := .bool true) (by kernel_rfl) (hK _ _ ?_)
  clear hK K
  simp only [Act.put, List.setIfInBounds_toArray, List.set_cons_zero, List.set_cons_succ]
  refine wpList_step (fun K hK => ?_)
  rw [if_pos (by kernel_rfl)]
  refine k_val (v := .bool true) (by kernel_rfl) (hK _ _ ?_)
  clear hK K
  simp only [Act.put, List.setIfInBounds_toArray, List.set_cons_zero, List.set_cons_succ]
  refine wpList_step (fun K hK => ?_)
  rw [if_pos (by kernel_rfl)]
  refine k_ld H _ rfl _ yO (by simp) rfl (hK _ _ ?_)
  clear hK K
  simp only [Act.put, List.setIfInBounds_toArray, List.set_cons_zero, List.set_cons_succ]
  refine wpList_step (fun K hK => ?_)
  rw [if_pos (by kernel_rfl)]
  refine k_ld H _ rfl _ zO (by simp) rfl (hK _ _ ?_)
  clear hK K
  simp only [Act.put, List.setIfInBounds_toArray, List.set_cons_zero, List.set_cons_succ]
  refine wpList_step (fun K hK => ?_)
  rw [if_pos (by kernel_rfl)]
  refine k_eq H yO zO (by simp) (by simp) false (iff_of_false Bool.false_ne_true (y_ne zO rfl).1) (by kernel_rfl) fun w2 hb2 H2 => hK _ _ ?_
  replace BB := BB.trans (hb2.mono BB.size)
  clear H
  replace H := H2
  clear H2 hb2
  clear hK K
  simp only [Act.put, List.setIfInBounds_toArray, List.set_cons_zero, List.set_cons_succ]
  refine wpList_step (fun K hK => ?_)
  rw [if_pos (by kernel_rfl)]
  refine k_val (v := .bool true) (by kernel_rfl) (hK _ _ ?_)
  clear hK K
  simp only [Act.put, List.setIfInBounds_toArray, List.set_cons_zero, List.set_cons_succ]
  refine wpList_step (fun K hK => ?_)
  rw [if_pos (by kernel_rfl)]
  refine k_val (v := .bool true) (by kernel_rfl) (hK _ _ ?_)
  clear hK K
  simp only [Act.put, List.setIfInBounds_toArray, List.set_cons_zero, List.set_cons_succ]
  refine wpList_step (fun K hK => ?_)
  rw [if_pos (by kernel_rfl)]
  refine k_val (v := .bool true) (by kernel_rfl) (hK _ _ ?_)
  clear hK K
  simp only [Act.put, List.setIfInBounds_toArray, List.set_cons_zero, List.set_cons_succ]
  refine wpList_step (fun K hK => ?_)
  rw [if_pos (by kernel_rfl)]
  refine k_ld H _ rfl _ zO (by simp) rfl (hK _ _ ?_)
  clear hK K
  simp only [Act.put, List.setIfInBounds_toArray, List.set_cons_zero, List.set_cons_succ]
  refine wpList_step (fun K hK => ?_)
  rw [if_pos (by kernel_rfl)]
  refine k_ld H _ rfl _ yO (by simp) rfl (hK _ _ ?_)
  clear hK K
  simp only [Act.put, List.setIfInBounds_toArray, List.set_cons_zero, List.set_cons_succ]
  refine wpList_step (fun K hK => ?_)
  rw [if_pos (by kernel_rfl)]
  refine k_eq H zO yO (by simp) (by simp) false (iff_of_false Bool.false_ne_true (y_ne zO rfl).2) (by kernel_rfl) fun w2 hb2 H2 => hK _ _ ?_
  replace BB := BB.trans (hb2.mono BB.size)
  clear H
  replace H := H2
  clear H2 hb2
  clear hK K
  simp only [Act.put, List.setIfInBounds_toArray, List.set_cons_zero, List.set_cons_succ]
  refine wpList_step (fun K hK => ?_)
  rw [if_pos (by kernel_rfl)]
  refine k_val (v := .bool true) (by kernel_rfl) (hK _ _ ?_)
  clear hK K
  simp only [Act.put, List.setIfInBounds_toArray, List.set_cons_zero, List.set_cons_succ]
  refine wpList_step (fun K hK => ?_)
  rw [if_pos (by kernel_rfl)]
  refine k_val (v := .bool true) (by kernel_rfl) (hK _ _ ?_)
  clear hK K
  simp only [Act.put, List.setIfInBounds_toArray, List.set_cons_zero, List.set_cons_succ]
  refine wpList_step (fun K hK => ?_)
  rw [if_pos (by kernel_rfl)]
  refine k_val (v := .bool true) (by kernel_rfl) (hK _ _ ?_)
  clear hK K
  simp only [Act.put, List.setIfInBounds_toArray, List.set_cons_zero, List.set_cons_succ]
  refine wpList_step (fun K hK => ?_)
  rw [if_pos (by kernel_rfl)]
  refine k_ld H _ rfl _ yO (by simp) rfl (hK _ _ ?_)
  clear hK K
  simp only [Act.put, List.setIfInBounds_toArray, List.set_cons_zero, List.set_cons_succ]
  refine wpList_step (fun K hK => ?_)
  rw [if_pos (by kernel_rfl)]
  refine k_ld H _ rfl _ zO (by simp) rfl (hK _ _ ?_)
  clear hK K
  simp only [Act.put, List.setIfInBounds_toArray, List.set_cons_zero, List.set_cons_succ]
  refine wpList_step (fun K hK => ?_)
  rw [if_pos (by kernel_rfl)]
  refine k_eq H yO zO (by simp) (by simp) false (iff_of_false Bool.false_ne_true (y_ne zO rfl).1) (by kernel_rfl) fun w2 hb2 H2 => hK _ _ ?_
  replace BB := BB.trans (hb2.mono BB.size)
  clear H
  replace H := H2
  clear H2 hb2
  clear hK K
  simp only [Act.put, List.setIfInBounds_toArray, List.set_cons_zero, List.set_cons_succ]
  refine wpList_step (fun K hK => ?_)
  rw [if_pos (by kernel_rfl)]
  refine k_val (v := .bool true) (by kernel_rfl) (hK _ _ ?_)
  clear hK K
  simp only [Act.put, List.setIfInBounds_toArray, List.set_cons_zero, List.set_cons_succ]
  refine wpList_step (fun K hK => ?_)
  rw [if_pos (by kernel_rfl)]
  refine k_val (v := .bool true) (by kernel_rfl) (hK _ _ ?_)
  clear hK K
  simp only [Act.put, List.setIfInBounds_toArray, List.set_cons_zero, List.set_cons_succ]
  refine wpList_step (fun K hK => ?_)
  rw [if_pos (by kernel_rfl)]
  refine k_val (v := .bool true) (by kernel_rfl) (hK _ _ ?_)
  clear hK K
  simp only [Act.put, List.setIfInBounds_toArray, List.set_cons_zero, List.set_cons_succ]
  refine wpList_step (fun K hK => ?_)
  rw [if_pos (by kernel_rfl)]
  refine k_ld H _ rfl _ zO (by simp) rfl (hK _ _ ?_)
  clear hK K
  simp only [Act.put, List.setIfInBounds_toArray, List.set_cons_zero, List.set_cons_succ]
  refine wpList_step (fun K hK => ?_)
  rw [if_pos (by kernel_rfl)]
  refine k_ld H _ rfl _ yO (by simp) rfl (hK _ _ ?_)
  clear hK K
  simp only [Act.put, List.setIfInBounds_toArray, List.set_cons_zero, List.set_cons_succ]
  refine wpList_step (fun K hK => ?_)
  rw [if_pos (by kernel_rfl)]
  refine k_eq H zO yO (by simp) (by simp) false (iff_of_false Bool.false_ne_true (y_ne zO rfl).2) (by kernel_rfl) fun w2 hb2 H2 => hK _ _ ?_
  replace BB := BB.trans (hb2.mono BB.size)
  clear H
  replace H := H2
  clear H2 hb2
  clear hK K
  simp only [Act.put, List.setIfInBounds_toArray, List.set_cons_zero, List.set_cons_succ]
  refine wpList_step (fun K hK => ?_)
  rw [if_pos (by kernel_rfl)]
  refine k_val (v := .bool true) (by kernel_rfl) (hK _ _ ?_)
  clear hK K
  simp only [Act.put, List.setIfInBounds_toArray, List.set_cons_zero, List.set_cons_succ]
  refine wpList_step (fun K hK => ?_)
  rw [if_pos (by kernel_rfl)]
  refine k_val (v := .bool true) (by kernel_rfl) (hK _ _ ?_)
  clear hK K
  simp only [Act.put, List.setIfInBounds_toArray, List.set_cons_zero, List.set_cons_succ]
  refine wpList_step (fun K hK => ?_)
  rw [if_pos (by kernel_rfl)]
  refine k_val (v := .bool true) (by kernel_rfl) (hK _ _ ?_)
  clear hK K
  simp only [Act.put, List.setIfInBounds_toArray, List.set_cons_zero, List.set_cons_succ]
  refine wpList_step (fun K hK => ?_)
  rw [if_pos (by kernel_rfl)]
  refine k_ld H _ rfl _ zO (by simp) rfl (hK _ _ ?_)
  clear hK K
  simp only [Act.put, List.setIfInBounds_toArray, List.set_cons_zero, List.set_cons_succ]
  refine wpList_step (fun K hK => ?_)
  rw [if_pos (by kernel_rfl)]
  refine k_ld H _ rfl _ zO (by simp) rfl (hK _ _ ?_)
  clear hK K
  simp only [Act.put, List.setIfInBounds_toArray, List.set_cons_zero, List.set_cons_succ]
  refine wpList_step (fun K hK => ?_)
  rw [if_pos (by kernel_rfl)]
  refine k_eq H zO zO (by simp) (by simp) true (iff_of_true rfl (Opt.Same.refl _)) (by kernel_rfl) fun w2 hb2 H2 => hK _ _ ?_
  replace BB := BB.trans (hb2.mono BB.size)
  clear H
  replace H := H2
  clear H2 hb2
  clear hK K
  simp only [Act.put, List.setIfInBounds_toArray, List.set_cons_zero, List.set_cons_succ]
  refine wpList_step (fun K hK => ?_)
  rw [if_pos (by kernel_rfl)]
  refine k_val (v := .bool true) (by kernel_rfl) (hK _ _ ?_)
  clear hK K
  simp only [Act.put, List.setIfInBounds_toArray, List.set_cons_zero, List.set_cons_succ]
  refine wpList_step (fun K hK => ?_)
  rw [if_pos (by kernel_rfl)]
  refine k_val (v := .bool true) (by kernel_rfl) (hK _ _ ?_)
  clear hK K
  simp only [Act.put, List.setIfInBounds_toArray, List.set_cons_zero, List.set_cons_succ]
  refine wpList_step (fun K hK => ?_)
  rw [if_pos (by kernel_rfl)]
  refine k_ld H _ rfl _ zO (by simp) rfl (hK _ _ ?_)
  clear hK K
  simp only [Act.put, List.setIfInBounds_toArray, List.set_cons_zero, List.set_cons_succ]
  refine wpList_step (fun K hK => ?_)
  rw [if_pos (by kernel_rfl)]
  refine k_ld H _ rfl _ oe (by simp) rfl (hK _ _ ?_)
  clear hK K
  simp only [Act.put, List.setIfInBounds_toArray, List.set_cons_zero, List.set_cons_succ]
  refine wpList_step (fun K hK => ?_)
  rw [if_pos (by kernel_rfl)]
  refine k_eq H zO oe (by simp) (by simp) true (iff_of_true rfl SE) (by kernel_rfl) fun w2 hb2 H2 => hK _ _ ?_
  replace BB := BB.trans (hb2.mono BB.size)
  clear H
  replace H := H2
  clear H2 hb2
  clear hK K
  simp only [Act.put, List.setIfInBounds_toArray, List.set_cons_zero, List.set_cons_succ]
  refine wpList_step (fun K hK => ?_)
  rw [if_pos (by kernel_rfl)]
  refine k_val (v := .bool true) (by kernel_rfl) (hK _ _ ?_)
  clear hK K
  simp only [Act.put, List.setIfInBounds_toArray, List.set_cons_zero, List.set_cons_succ]
  refine wpList_step (fun K hK => ?_)
  rw [if_pos (by kernel_rfl)]
  refine k_val (v := .bool true) (by kernel_rfl) (hK _ _ ?_)
  clear hK K
  simp only [Act.put, List.setIfInBounds_toArray, List.set_cons_zero, List.set_cons_succ]
  refine wpList_step (fun K hK => ?_)
  rw [if_pos (by kernel_rfl)]
  refine k_ld H _ rfl _ oe (by simp) rfl (hK _ _ ?_)
  clear hK K
  simp only [Act.put, List.setIfInBounds_toArray, List.set_cons_zero, List.set_cons_succ]
  refine wpList_step (fun K hK => ?_)
  rw [if_pos (by kernel_rfl)]
  refine k_ld H _ rfl _ zO (by simp) rfl (hK _ _ ?_)
  clear hK K
  simp only [Act.put, List.setIfInBounds_toArray, List.set_cons_zero, List.set_cons_succ]
  refine wpList_step (fun K hK => ?_)
  rw [if_pos (by kernel_rfl)]
  refine k_eq H oe zO (by simp) (by simp) true (iff_of_true rfl SE.symm) (by kernel_rfl) fun w2 hb2 H2 => hK _ _ ?_
  replace BB := BB.trans (hb2.mono BB.size)
  clear H
  replace H := H2
  clear H2 hb2
  clear hK K
  simp only [Act.put, List.setIfInBounds_toArray, List.set_cons_zero, List.set_cons_succ]
  refine wpList_step (fun K hK => ?_)
  rw [if_pos (by kernel_rfl)]
  refine k_val (v := .bool true) (by kernel_rfl) (hK _ _ ?_)
  clear hK K
  simp only [Act.put, List.setIfInBounds_toArray, List.set_cons_zero, List.set_cons_succ]
  refine wpList_step (fun K hK => ?_)
  rw [if_pos (by kernel_rfl)]
  refine k_val (v := .bool true) (by kernel_rfl) (hK _ _ ?_)
  clear hK K
  simp only [Act.put, List.setIfInBounds_toArray, List.set_cons_zero, List.set_cons_succ]
  refine wpList_nil ?_
  go_wp2_with fail
  go_ret
  exact ⟨rfl, BB⟩
end Go.Proofs.Ytbebfpmnekbldaa.op
