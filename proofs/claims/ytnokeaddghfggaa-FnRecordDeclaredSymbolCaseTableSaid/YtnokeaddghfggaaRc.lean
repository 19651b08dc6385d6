/-
  Declared symbols: recordDeclaredSymbol at the top.
-/
import Derived.Test.YtnokeaddghfggaaRb
namespace Go.Proofs.Ytnokeaddghfggaa.ds
open Go.ChangeShapes Go.WideShapes Go.ChangeAt Go.RowKit Go.Deep Go.Proofs.Ytnokeaddghfggaa.mk
set_option linter.unusedVariables false
set_option linter.unusedSimpArgs false

set_option maxRecDepth 100000 in
set_option maxHeartbeats 4000000 in
theorem rec_top (w : World) (D g B MB SB PB n lk : Nat) (K : Nat → Int) (ln : Nat) (N : Nat → Int) (lm : Nat) (Q : Nat → Int) (m : Nat) (a : Option Addr) (c : Nat) (xs : List Value) (i : Nat) (h : De w D g B B MB SB PB n lk K ln N lm Q m (.slice a m c) xs) (hi : i < n) (hn : n ≤ 65537) (hm : m ≤ 1048576) :
    Calls Try.prog 16 #[.pointer (some ⟨g, 0, none⟩), .agg #[.int .u32 1, .int .u32 i]] w (RcP w D g B B MB SB PB n lk K ln N lm Q m xs i true) := by
  have H := Lib.hid h
  have c1 := h.1.c104
  have c2 := h.1.c187
  have hpe := fun w => ptr_same w B
  have hg : g < w.heap.size := block_lt_of_cell c1
  obtain ⟨i0, z0, e1, e2, e3, e4, e5⟩ := parts_of info45
  have E1 := Lib.hid e1
  have E2 := Lib.hid e2
  have E3 := Lib.hid e3
  have E4 := Lib.hid e4
  have E5 := Lib.hid e5
  clear e1 e2 e3 e4 e5 h
  go_enter Try.func16, Try.ntmps16
  go_wp2
  go_region
  all_goals
    go_wp2
    have HW : Hid (De ((w.alloc (.cells #[.int .u32 1, .int .u32 i] 43)).drew) D g B B MB SB PB n lk K ln N lm Q m (.slice a m c) xs) := Lib.hid (H.out.alloc _).drew
    have HTW : Hid (Touch (fun q => q = PB ∨ D ≤ q) w ((w.alloc (.cells #[.int .u32 1, .int .u32 i] 43)).drew)) := Lib.hid ((Touch.refl _ w).alloc _).drew
    have r0 : ((w.alloc (.cells #[.int .u32 1, .int .u32 i] 43)).drew).cell? ⟨w.heap.size, 0, none⟩ = some (.int .u32 1) := by go_simp
    have r1 : ((w.alloc (.cells #[.int .u32 1, .int .u32 i] 43)).drew).cell? ⟨w.heap.size, 1, none⟩ = some (.int .u32 i) := by go_simp
    have hwl : w.heap.size < ((w.alloc (.cells #[.int .u32 1, .int .u32 i] 43)).drew).heap.size := by simp [heap_drew]
    clear c1 c2 hpe
    generalize ((w.alloc (.cells #[.int .u32 1, .int .u32 i] 43)).drew) = W at *
    have HOne : Hid (∀ u ∈ [Value.int .u32 1, .int .u32 i, .bool true], u.oneCell' = true) := Lib.hid (by simp [Value.oneCell'])
    have o5 := HW.out.1.c105
    have o3 := HW.out.2.p3
    have hPl : PB < W.heap.size := block_lt_of_cell o3
    have hgl : g < W.heap.size := block_lt_of_cell o5
    go_region_law (refine step_append_lies _ rfl (.tmp 53) (.tmp 57) 34 rfl D 45 i0 z0 3 12 Try.underlying34 E1.out E2.out E4.out E5.out (by rw [E3.out]; rfl) (by decide) _ m xs rfl (HW.out.2.own.alloc _) ⟨W.heap.size, 0, none⟩ 1 1 [.int .u32 1, .int .u32 i, .bool true] rfl rfl (World.news_of_block (heap_alloc_new W _)) HOne.out (by decide) (by unfold maxLen; omega) (by omega) (by have := HW.out.1.dsz; simp; omega) _ rfl ?_; intro k cap w2 hown hgrow hat hlt; have HO2 := Lib.hid hown; have HG2 := Lib.hid hgrow; have HA2 := Lib.hid hat; clear hown hgrow hat hlt; have HN2 := Lib.hid (De.grow HW.out HG2.out); have d1 := HN2.out.1; have d2 := HN2.out.2.1; have d3 := HN2.out.2.2.1; have d4 := HN2.out.2.2.2.1)
    all_goals
      clear d1 d2 d3 d4
      go_wp2_with fail
      go_end0
      exact ⟨rfl, ⟨k, cap, HN2.out.2.2.2.2.2.store _, De.fin HO2.out HN2.out.2.1 HN2.out.2.2.1 HN2.out.2.2.2.2.1 (De.ngk HW.out HA2.out)⟩, HTW.out.trans (((((Touch.refl _ W).alloc _).drew).grown HG2.out (fun q e _ => .inr (De.blk HW.out q e))).setCell _ (fun _ => .inl rfl) _)⟩
end Go.Proofs.Ytnokeaddghfggaa.ds
