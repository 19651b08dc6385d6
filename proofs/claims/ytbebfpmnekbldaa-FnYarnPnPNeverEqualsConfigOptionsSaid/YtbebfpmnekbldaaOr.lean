/-
  Options: law 12.
-/
import Derived.Test.YtbebfpmnekbldaaOq
import Derived.Deep.CutBlock

namespace Go.Proofs.Ytbebfpmnekbldaa.op
open Go.ChangeShapes Go.WideShapes Go.ChangeAt Go.RowKit Go.Deep
set_option linter.unusedVariables false
set_option linter.unusedSimpArgs false
set_option maxRecDepth 100000
set_option maxHeartbeats 2000000
theorem walk12 (w : World) (n : Int) (env : ByteArray) (f g h : Int) (mn rn : Bool) (la : Option Addr) (ln lc : Nat) (V : Nat → ByteArray) (hn : (Lit.int .u16 n).wf = true) (hs : IsStrs w la ln lc V) : Calls Try.prog 4 #[.agg #[.int .u16 n, .string env, .int .u64 f, .int .u64 g, .int .u64 h, .bool mn, .bool rn, .slice la ln lc]] w fun e w' => e = .returned (.bool true) ∧ Below w.heap.size w w' := by
  have HN : Hid (0 ≤ n ∧ n < 65536) := Lib.hid (by have h0 := hn; simp [Lit.wf] at h0; have e1 : IntKind.u16.min = 0 := (by decide); have e2 : IntKind.u16.max = 65535 := (by decide); rw [e1, e2] at h0; omega)
  have CS : Cst w w.heap.size n env f g h mn rn la ln lc V (w.alloc (.cells #[.int .u16 n, .string env, .int .u64 f, .int .u64 g, .int .u64 h, .bool mn, .bool rn, .slice la ln lc] 65)) := ⟨(Below.refl _ _).alloc (Nat.le_refl _) _, Nat.le_refl _, heap_alloc_new _ _, hs.below ((Below.refl _ _).alloc (Nat.le_refl _) _)⟩
  clear hn hs
  go_enter Try.func4, Try.ntmps4
  go_upto_region 8 with (first | (refine wpList_load_row rfl 65 _ rfl w.heap.size rfl 65 _ (0, 0) _ CS.2.2.1 Try.underlying65 rfl (by kernel_rfl) ?_) | (go_at_call 10; refine (bytes10 _ n env f g h mn rn la ln lc V CS.2.2.2).mono ?_; rintro e w1 ⟨⟨b, rfl⟩, hb1⟩; replace CS := CS.next hb1; clear hb1; cases b) | (go_at_call 11; refine (count11 _ n env f g h mn rn la ln lc V CS.2.2.2).mono ?_; rintro e w1 ⟨⟨c, rfl, hc⟩, hb1⟩; replace CS := CS.next hb1; clear hb1; by_cases hcc : c ≤ 1048576; rotate_left; (have t1 : decide ((1048576 : Int) < c) = true := (by simp; omega); clear hc hcc); rotate_left; (have HL := Lib.hid (hc hcc); have t1 : decide ((1048576 : Int) < c) = false := (by simpa using hcc); clear hc hcc)) | (go_at_call 12; refine (clone12 _ n env f g h mn rn la ln lc V (by have := HL.out; omega) CS.2.2.2.2.2.1 CS.2.2.2.1).mono ?_; rintro e w1 ⟨la', lc', rfl, hr, hnil, hb1, hnew⟩; have CT := Lib.hid (CS.put hb1 hr hnil hnew); have CG := Lib.hid (CS.next hb1).2.2.1; clear CS hr hnil hb1 hnew) | (refine wpList_store_row rfl 65 _ _ rfl w.heap.size _ rfl rfl 65 _ CG.out (by kernel_rfl) rfl (by kernel_rfl) ?_; have CS := CT.out; clear CT CG; have H := CS.held) | (go_at_call 7; refine (yarn7o _).mono ?_; rintro e w1 ⟨rfl, hb1⟩; replace H := H.below hb1; replace CS := CS.next hb1; clear hb1) | (go_at_call 8; refine (build8o _ _ _ _ _ _ _ _ _ _ _ V HN.out (by have := HL.out; omega) CS.2.2.2.2.2.1 CS.2.2.2.1).mono ?_; rintro e w3 ⟨oe, rfl, ok, hm, hr, hy, hl, hV, he, hf, hg, hh, hbb, hb1⟩; replace H := H.below hb1; replace CS := CS.next hb1; have HY := Lib.hid hy; have OKH := Lib.hid ok; clear hb1 hm hr hy hl hV he hf hg hh hbb ok) | (refine Go.Great.wpList_allocTo rfl _ rfl (.pointer (some ⟨_, 0, none⟩)) (.cells oz 60) (alloc60_run _ _ rfl _) ?_) | (refine wpList_store_row rfl 60 _ _ rfl _ oe.cells rfl rfl 60 oz (heap_alloc_new _ _) (by rw [Opt.size]; kernel_rfl) (by rw [Opt.size]; kernel_rfl) (by kernel_rfl) ?_; rw [World.setRow_alloc_new]; replace H := H.add oe OKH.out; replace CS := CS.alloc (.cells oe.cells 60)) | (refine wpList_store_row rfl 60 _ _ rfl _ yO.cells rfl rfl 60 oz (heap_alloc_new _ _) (by rw [Opt.size]; kernel_rfl) (by rw [Opt.size]; kernel_rfl) (by kernel_rfl) ?_; rw [World.setRow_alloc_new]; replace H := H.add yO (yO_ok _); replace CS := CS.alloc (.cells yO.cells 60)))
  · go_ret
    exact ⟨rfl, CS.1⟩
  · have BB := CS.1
    clear CS
    refine wp_region_list ?_
    simp only [Act.put, List.setIfInBounds_toArray, List.set_cons_zero, List.set_cons_succ]
    refine wpList_step (fun K hK => ?_)
    rw [if_pos (by kernel_rfl)]
    refine k_ld H _ rfl _ yO (by simp) rfl (hK _ _ ?_)
    clear hK K
    simp only [Act.put, List.setIfInBounds_toArray, List.set_cons_zero, List.set_cons_succ]
    refine wpList_step (fun K hK => ?_)
    rw [if_pos (by kernel_rfl)]
    refine k_ld H _ rfl _ yO (by simp) rfl (hK _ _ ?_)
    clear hK K
    simp only [Act.put, List.setIfInBounds_toArray, List.set_cons_zero, List.set_cons_succ]
    refine wpList_step (fun K hK => ?_)
    rw [if_pos (by kernel_rfl)]
    refine k_eq H yO yO (by simp) (by simp) true (iff_of_true rfl (Opt.Same.refl _)) (by kernel_rfl) fun w2 hb2 H2 => hK _ _ ?_
    replace BB := BB.trans (hb2.mono BB.size)
    clear H
    replace H := H2
    clear H2 hb2
    clear hK K
    simp only [Act.put, List.setIfInBounds_toArray, List.set_cons_zero, List.set_cons_succ]
    refine wpList_step (fun K hK => ?_)
    rw [if_pos (by kernel_rfl)]
    refine k_val (v := .bool true) (by kernel_rfl) (hK _ _ ?_)
    clear hK K
    simp only [Act.put, List.setIfInBounds_toArray, List.set_cons_zero, List.set_cons_succ]
    refine wpList_step (fun K hK => ?_)
    rw [if_pos (by kernel_rfl)]
    refine k_ld H _ rfl _ yO (by simp) rfl (hK _ _ ?_)
    clear hK K
    simp only [Act.put, List.setIfInBounds_toArray, List.set_cons_zero, List.set_cons_succ]
    refine wpList_step (fun K hK => ?_)
    rw [if_pos (by kernel_rfl)]
    refine k_ld H _ rfl _ oe (by simp) rfl (hK _ _ ?_)
    clear hK K
    simp only [Act.put, List.setIfInBounds_toArray, List.set_cons_zero, List.set_cons_succ]
    refine wpList_step (fun K hK => ?_)
    rw [if_pos (by kernel_rfl)]
    refine k_eq H yO oe (by simp) (by simp) false (iff_of_false Bool.false_ne_true (y_ne oe HY.out).1) (by kernel_rfl) fun w2 hb2 H2 => hK _ _ ?_
    replace BB := BB.trans (hb2.mono BB.size)
    clear H
    replace H := H2
    clear H2 hb2
    clear hK K
    simp only [Act.put, List.setIfInBounds_toArray, List.set_cons_zero, List.set_cons_succ]
    refine wpList_step (fun K hK => ?_)
    rw [if_pos (by kernel_rfl)]
    refine k_val (v := .bool true) (by kernel_rfl) (hK _ _ ?_)
    clear hK K
    simp only [Act.put, List.setIfInBounds_toArray, List.set_cons_zero, List.set_cons_succ]
    refine wpList_step (fun K hK => ?_)
    rw [if_pos (by kernel_rfl)]
    refine k_val (v := .bool true) (by kernel_rfl) (hK _ _ ?_)
    clear hK K
    simp only [Act.put, List.setIfInBounds_toArray, List.set_cons_zero, List.set_cons_succ]
    refine wpList_step (fun K hK => ?_)
    rw [if_pos (by kernel_rfl)]
    refine k_val (v := .bool true) (by kernel_rfl) (hK _ _ ?_)
    clear hK K
    simp only [Act.put, List.setIfInBounds_toArray, List.set_cons_zero, List.set_cons_succ]
    refine wpList_step (fun K hK => ?_)
    rw [if_pos (by kernel_rfl)]
    refine k_ld H _ rfl _ oe (by simp) rfl (hK _ _ ?_)
    clear hK K
    simp only [Act.put, List.setIfInBounds_toArray, List.set_cons_zero, List.set_cons_succ]
    refine wpList_step (fun K hK => ?_)
    rw [if_pos (by kernel_rfl)]
    refine k_ld H _ rfl _ yO (by simp) rfl (hK _ _ ?_)
    clear hK K
    simp only [Act.put, List.setIfInBounds_toArray, List.set_cons_zero, List.set_cons_succ]
    refine wpList_step (fun K hK => ?_)
    rw [if_pos (by kernel_rfl)]
    refine k_eq H oe yO (by simp) (by simp) false (iff_of_false Bool.false_ne_true (y_ne oe HY.out).2) (by kernel_rfl) fun w2 hb2 H2 => hK _ _ ?_
    replace BB := BB.trans (hb2.mono BB.size)
    clear H
    replace H := H2
    clear H2 hb2
    clear hK K
    simp only [Act.put, List.setIfInBounds_toArray, List.set_cons_zero, List.set_cons_succ]
    refine wpList_step (fun K hK => ?_)
    rw [if_pos (by kernel_rfl)]
    refine k_val (v := .bool true) (by kernel_rfl) (hK _ _ ?_)
    clear hK K
    simp only [Act.put, List.setIfInBounds_toArray, List.set_cons_zero, List.set_cons_succ]
    refine wpList_step (fun K hK => ?_)
    rw [if_pos (by kernel_rfl)]
    refine k_val (v := .bool true) (by kernel_rfl) (hK _ _ ?_)
    clear hK K
    simp only [Act.put, List.setIfInBounds_toArray, List.set_cons_zero, List.set_cons_succ]
    refine wpList_step (fun K hK => ?_)
    rw [if_pos (by kernel_rfl)]
    refine k_val (v := .bool true) (by kernel_rfl) (hK _ _ ?_)
    clear hK K
    simp only [Act.put, List.setIfInBounds_toArray, List.set_cons_zero, List.set_cons_succ]
    refine wpList_nil ?_
    go_wp2_with fail
    go_ret
    exact ⟨rfl, BB⟩
  · go_ret
    exact ⟨rfl, CS.1⟩
end Go.Proofs.Ytbebfpmnekbldaa.op
