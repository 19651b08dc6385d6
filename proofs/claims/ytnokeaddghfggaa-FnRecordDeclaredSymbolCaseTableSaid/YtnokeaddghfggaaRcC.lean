/-
  Declared symbols: recordDeclaredSymbol, the way C.
-/
import Derived.Test.YtnokeaddghfggaaRb
namespace Go.Proofs.Ytnokeaddghfggaa.ds
open Go.ChangeShapes Go.WideShapes Go.ChangeAt Go.RowKit Go.Deep Go.Proofs.Ytnokeaddghfggaa.mk
set_option linter.unusedVariables false
set_option linter.unusedSimpArgs false
set_option maxRecDepth 100000 in
set_option maxHeartbeats 8000000 in
theorem rec_C (w : World) (D g C B MB SB PB n lk : Nat) (K : Nat → Int) (ln : Nat) (N : Nat → Int) (lm : Nat) (Q : Nat → Int) (m : Nat) (a : Option Addr) (c : Nat) (xs : List Value) (i : Nat) (h : De w D g C B MB SB PB n lk K ln N lm Q m (.slice a m c) xs) (hCB : C ≠ B) (hi : i < n) (hn : n ≤ 65537) (hm : m ≤ 1048576) (hh : hst K lk i = true) (x : Nat) (hq : mem Q lm n (nix N ln i) = x) (hxi : x ≠ i) :
    Calls Try.prog 16 #[.pointer (some ⟨g, 0, none⟩), .agg #[.int .u32 1, .int .u32 i]] w (RcP w D g C B MB SB PB n lk K ln N lm Q m xs i false) := by
  have H := Lib.hid h
  have c1 := h.1.c104
  have c2 := h.1.c187
  have hg : g < w.heap.size := block_lt_of_cell c1
  obtain ⟨cb, hcb⟩ := h.1.bB
  obtain ⟨cc, hcc⟩ := h.1.bC
  have hpe : (binOp .eql 28 (.pointer (some ⟨C, 0, none⟩)) (.pointer (some ⟨B, 0, none⟩))).run Try.prog ((w.alloc (.cells #[.int .u32 1, .int .u32 i] 43)).drew) = .ok (.bool false) ((w.alloc (.cells #[.int .u32 1, .int .u32 i] 43)).drew) := ptr_other hCB ((Below.heap_alloc _ _ _ (lt_of_block hcc)).trans hcc) ((Below.heap_alloc _ _ _ (lt_of_block hcb)).trans hcb)
  have hkh : (knd K lk i == 1 || knd K lk i == 2) = hst K lk i := knd_hst K lk i
  rw [hh] at hkh
  obtain ⟨kb1, kb2⟩ := knd_bd K lk i
  obtain ⟨i0, z0, e1, e2, e3, e4, e5⟩ := parts_of info45
  have E1 := Lib.hid e1
  have E2 := Lib.hid e2
  have E3 := Lib.hid e3
  have E4 := Lib.hid e4
  have E5 := Lib.hid e5
  have HKH := Lib.hid hkh
  have HQ := Lib.hid hq
  clear hq
  clear e1 e2 e3 e4 e5 h hcb hcc hh hkh hCB
  go_enter Try.func16, Try.ntmps16
  go_wp2
  go_region
  all_goals
    go_wp2
    have HW0 : Hid (De ((w.alloc (.cells #[.int .u32 1, .int .u32 i] 43)).drew) D g C B MB SB PB n lk K ln N lm Q m (.slice a m c) xs) := Lib.hid (H.out.alloc _).drew
    have HT0 : Hid (Touch (fun q => q = PB ∨ D ≤ q) w ((w.alloc (.cells #[.int .u32 1, .int .u32 i] 43)).drew)) := Lib.hid ((Touch.refl _ w).alloc _).drew
    have r0 : ((w.alloc (.cells #[.int .u32 1, .int .u32 i] 43)).drew).cell? ⟨w.heap.size, 0, none⟩ = some (.int .u32 1) := by go_simp
    have r1 : ((w.alloc (.cells #[.int .u32 1, .int .u32 i] 43)).drew).cell? ⟨w.heap.size, 1, none⟩ = some (.int .u32 i) := by go_simp
    have hwl : w.heap.size < ((w.alloc (.cells #[.int .u32 1, .int .u32 i] 43)).drew).heap.size := by simp [heap_drew]
    clear c1 c2 hpe
    generalize ((w.alloc (.cells #[.int .u32 1, .int .u32 i] 43)).drew) = W0 at *
    have c3 := HW0.out.1.c106
    obtain ⟨kk, hkk⟩ : ∃ kk, kk = knd K lk i := ⟨_, rfl⟩
    obtain ⟨ss, hss⟩ : ∃ ss, ss = nm (nix N ln i) := ⟨_, rfl⟩
    have HKK := Lib.hid hkk
    have HSS := Lib.hid hss
    have s0 := HW0.out.1.syms.1 i 0 _ hi rfl (by omega)
    have s1 := HW0.out.1.syms.1 i 1 _ hi rfl (by omega)
    have s2 := HW0.out.1.syms.1 i 2 _ hi rfl (by omega)
    have s3 := HW0.out.1.syms.1 i 3 _ hi rfl (by omega)
    have s4 := HW0.out.1.syms.1 i 4 _ hi rfl (by omega)
    have s5 := HW0.out.1.syms.1 i 5 _ hi rfl (by omega)
    have s6 := HW0.out.1.syms.1 i 6 _ hi rfl (by omega)
    have s7 := HW0.out.1.syms.1 i 7 _ hi rfl (by omega)
    have s8 := HW0.out.1.syms.1 i 8 _ hi rfl (by omega)
    have s9 := HW0.out.1.syms.1 i 9 _ hi rfl (by omega)
    rw [Nat.add_zero] at s0
    rw [← hss] at s1
    rw [← hkk] at s8
    rw [← hkk] at kb1 kb2
    clear hkk hss
    have hSl : SB < W0.heap.size := block_lt_of_cell s0
    have hgl0 : g < W0.heap.size := block_lt_of_cell c3
    go_region
    all_goals
      have HW1 : Hid (De ((W0.alloc (.cells #[.pointer none, .string ss, .int .u32 0, .int .u32 0, .int .u32 0, .int .u32 0, .int .u32 0, .int .u16 0, .int .u8 kk, .int .u8 0] 64)).drew) D g C B MB SB PB n lk K ln N lm Q m (.slice a m c) xs) := Lib.hid (HW0.out.alloc _).drew
      have HT1 : Hid (Touch (fun q => q = PB ∨ D ≤ q) w ((W0.alloc (.cells #[.pointer none, .string ss, .int .u32 0, .int .u32 0, .int .u32 0, .int .u32 0, .int .u32 0, .int .u16 0, .int .u8 kk, .int .u8 0] 64)).drew)) := Lib.hid (HT0.out.alloc _).drew
      have q0 : ((W0.alloc (.cells #[.pointer none, .string ss, .int .u32 0, .int .u32 0, .int .u32 0, .int .u32 0, .int .u32 0, .int .u16 0, .int .u8 kk, .int .u8 0] 64)).drew).cell? ⟨w.heap.size, 0, none⟩ = some (.int .u32 1) := by go_simp
      have q1 : ((W0.alloc (.cells #[.pointer none, .string ss, .int .u32 0, .int .u32 0, .int .u32 0, .int .u32 0, .int .u32 0, .int .u16 0, .int .u8 kk, .int .u8 0] 64)).drew).cell? ⟨w.heap.size, 1, none⟩ = some (.int .u32 i) := by go_simp
      have y1 : ((W0.alloc (.cells #[.pointer none, .string ss, .int .u32 0, .int .u32 0, .int .u32 0, .int .u32 0, .int .u32 0, .int .u16 0, .int .u8 kk, .int .u8 0] 64)).drew).cell? ⟨W0.heap.size, 1, none⟩ = some (.string ss) := by go_simp
      have y8 : ((W0.alloc (.cells #[.pointer none, .string ss, .int .u32 0, .int .u32 0, .int .u32 0, .int .u32 0, .int .u32 0, .int .u16 0, .int .u8 kk, .int .u8 0] 64)).drew).cell? ⟨W0.heap.size, 8, none⟩ = some (.int .u8 kk) := by go_simp
      clear s0 s1 s2 s3 s4 s5 s6 s7 s8 s9 c3 r0 r1 HW0 HT0 hSl hgl0
      generalize ((W0.alloc (.cells #[.pointer none, .string ss, .int .u32 0, .int .u32 0, .int .u32 0, .int .u32 0, .int .u32 0, .int .u16 0, .int .u8 kk, .int .u8 0] 64)).drew) = W1 at *
      generalize W0.heap.size = R0 at *
      have c2 := HW1.out.1.c187
      have c3 := HW1.out.1.c3
      obtain ⟨mm, Mm, hMi, hMem⟩ := HW1.out.1.mp
      have hmv : Mm (.string (nm (nix N ln i))) = some (memV (x : Int)) := by rw [hMem _ (nix_lt _ _ _), HQ.out, if_pos ⟨nix_lt _ _ _, by omega⟩]
      have hl : ∀ nq, (Instr.lookup 66 (.map (some MB)) (.string ss) false).run Try.prog (W1.drewN nq) = .ok (.agg #[.int .u32 1, .int .u32 (x : Int), .int .i32 0]) (W1.drewN nq) := fun nq => by
        have hl := (show MapIs (W1.drewN nq) MB StrKey mm Mm from hMi.of_block (by rw [World.heap_drewN])).look (strKey Try.underlying9 (W1.drewN nq)) Try.underlying66 (zero79 _) (str_key (nix N ln i)) false
        rw [hmv] at hl
        rw [HSS.out]
        exact hl
      have hf := field79
      have hqe := fun w => eql43 w 1 x 1 i false (by simp; omega)
      clear hMi hMem hmv
      have HB17 : Hid (∀ nq, Calls Try.prog 17 #[.int .u8 kk] (W1.drewN nq) fun e w' => e = .returned (.bool true) ∧ w' = W1.drewN nq) := Lib.hid (fun nq => (isHoisted17 _ kk ⟨kb1, kb2⟩).mono fun e w' ⟨he, hw⟩ => ⟨by rw [he, HKK.out, HKH.out], hw⟩)
      go_wp2_with fail
      go_quiet ((go_at_call 17; exact Calls.quiet_of_same (HB17.out _)))
      all_goals
        go_wp2_with fail
        clear hl hf hqe
        have HW : Hid (De (W1.drewN nq) D g C B MB SB PB n lk K ln N lm Q m (.slice a m c) xs) := Lib.hid (HW1.out.below ⟨rfl, rfl, rfl, Nat.le_refl _, fun _ _ => rfl⟩)
        have HTW : Hid (Touch (fun q => q = PB ∨ D ≤ q) w (W1.drewN nq)) := Lib.hid (HT1.out.then ⟨rfl, rfl, rfl, Nat.le_refl _, fun _ _ => rfl⟩)
        have r0 : (W1.drewN nq).cell? ⟨w.heap.size, 0, none⟩ = some (.int .u32 1) := q0
        have r1 : (W1.drewN nq).cell? ⟨w.heap.size, 1, none⟩ = some (.int .u32 i) := q1
        have hwl2 : w.heap.size < (W1.drewN nq).heap.size := block_lt_of_cell q0
        clear q0 q1 y1 y8 c2 c3 HW1 HT1 HB17 hwl
        generalize W1.drewN nq = W at *
        have HOne : Hid (∀ u ∈ [Value.int .u32 1, .int .u32 i, .bool false], u.oneCell' = true) := Lib.hid (by simp [Value.oneCell'])
        have o5 := HW.out.1.c105
        have o3 := HW.out.2.p3
        have hPl : PB < W.heap.size := block_lt_of_cell o3
        have hgl : g < W.heap.size := block_lt_of_cell o5
        go_region_law (refine step_append_lies _ rfl (.tmp 53) (.tmp 57) 34 rfl D 45 i0 z0 3 12 Try.underlying34 E1.out E2.out E4.out E5.out (by rw [E3.out]; rfl) (by decide) _ m xs rfl (HW.out.2.own.alloc _) ⟨W.heap.size, 0, none⟩ 1 1 [.int .u32 1, .int .u32 i, .bool false] rfl rfl (World.news_of_block (heap_alloc_new W _)) HOne.out (by decide) (by unfold maxLen; omega) (by omega) (by have := HW.out.1.dsz; simp; omega) _ rfl ?_; intro k cap w2 hown hgrow hat hlt; have HO2 := Lib.hid hown; have HG2 := Lib.hid hgrow; have HA2 := Lib.hid hat; clear hown hgrow hat hlt; have HN2 := Lib.hid (De.grow HW.out HG2.out); have d1 := HN2.out.1; have d2 := HN2.out.2.1; have d3 := HN2.out.2.2.1; have d4 := HN2.out.2.2.2.1)
        all_goals
          clear d1 d2 d3 d4
          go_wp2_with fail
          go_end0
          exact ⟨rfl, ⟨k, cap, HN2.out.2.2.2.2.2.store _, De.fin HO2.out HN2.out.2.1 HN2.out.2.2.1 HN2.out.2.2.2.2.1 (De.ngk HW.out HA2.out)⟩, HTW.out.trans (((((Touch.refl _ W).alloc _).drew).grown HG2.out (fun q e _ => .inr (De.blk HW.out q e))).setCell _ (fun _ => .inl rfl) _)⟩
end Go.Proofs.Ytnokeaddghfggaa.ds
