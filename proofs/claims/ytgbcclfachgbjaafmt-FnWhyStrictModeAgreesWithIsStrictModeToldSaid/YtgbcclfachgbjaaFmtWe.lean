/-
  Why a scope is strict: the case whose note fmt prints.
-/
import Derived.Test.YtgbcclfachgbjaaFmtWd
import Derived.Deep.RegionHeld3
namespace Go.Proofs.YtgbcclfachgbjaaFmt.ws
open Go.ChangeShapes Go.WideShapes Go.ChangeAt Go.RowKit Go.Deep
open Go.Extern.Stop Go.Stop Go.Extern
set_option linter.unusedVariables false
set_option linter.unusedSimpArgs false
set_option maxRecDepth 100000
set_option maxHeartbeats 4000000
theorem why4 (F : Interp) (w : World) (hF : F.answers w.tape) (p ts sc : Nat) (x1 x2 x3 x4 : Int) (h : Bool) (P : Ps w p ts x1 x2 x3 x4 h) (s : Sco w sc 4) (hs : sc ≠ p) : Calls Tryf.prog 9 #[ptr p 0, ptr sc 0] w (WhyP w p ts x1 x2 x3 x4 sT fun w' v => ∃ t, Nts w' v [(true, t)]) := by
  have HP := Lib.hid P
  have k13 := P.c13
  have k14 := s.c14
  have hr := P.recd
  have r1 : w.cell? ⟨ts, 1, none⟩ = some str0 := by rw [cell_of_row w _ 1 _ _ _ hr]; rfl
  have r2 : w.cell? ⟨ts, 1 + 1, none⟩ = some str0 := by rw [cell_of_row w _ 2 _ _ _ hr]; rfl
  have r4 : w.cell? ⟨ts, 1 + 3, none⟩ = some str0 := by rw [cell_of_row w _ 4 _ _ _ hr]; rfl
  have HR := Lib.hid (And.intro r1 (And.intro r2 r4))
  have HREC := Lib.hid hr
  have HF := Lib.hid hF
  clear P s r1 r2 r4 hr hF
  go_enter Tryf.func9, Tryf.ntmps9
  go_upto_region 8 with (go_at_call 8; refine (mk8 w ts 1 HR.out.1 HR.out.2.1 HR.out.2.2).mono ?_; rintro _ W ⟨rfl, hb⟩; have HB := Lib.hid hb; clear hb)
  have hl := HREC.out
  have hlt : ts < w.heap.size := lt_of_block hl
  have hWs := HB.out.size
  have HT := Lib.hid ((Touch.of_below HB.out (fun _ => False)).alloc (.cells #[str0, str0, str0, .int .i32 0, .int .i32 0, .int .i32 0, .int .i32 0, .bool true, .bool false, .bool true] 104))
  have hn := heap_alloc_new W (.cells #[str0, str0, str0, .int .i32 0, .int .i32 0, .int .i32 0, .int .i32 0, .bool true, .bool false, .bool true] 104)
  have hz : (W.alloc (.cells #[str0, str0, str0, .int .i32 0, .int .i32 0, .int .i32 0, .int .i32 0, .bool true, .bool false, .bool true] 104)).heap.size = W.heap.size + 1 := by simp
  generalize hW1 : W.alloc (.cells #[str0, str0, str0, .int .i32 0, .int .i32 0, .int .i32 0, .int .i32 0, .bool true, .bool false, .bool true] 104) = W1
  rw [hW1] at HT hn hz
  clear hW1
  have hl1 := (HT.out.block ts hlt id).trans hl
  have e0 : W1.cell? ⟨ts, 0, none⟩ = some str0 := by rw [cell_of_row W1 _ 0 _ _ _ hl1]; rfl
  have e11 : W1.cell? ⟨ts, 11, none⟩ = some (.int .i32 0) := by rw [cell_of_row W1 _ 11 _ _ _ hl1]; rfl
  have e12 : W1.cell? ⟨ts, 12, none⟩ = some (.int .i32 0) := by rw [cell_of_row W1 _ 12 _ _ _ hl1]; rfl
  have TK := Lib.hid (show Tk W1 W.heap.size 0 false from ⟨by rw [cell_of_row W1 _ 0 _ _ _ hn]; rfl, by rw [cell_of_row W1 _ 1 _ _ _ hn]; rfl, by rw [cell_of_row W1 _ 2 _ _ _ hn]; rfl, by rw [cell_of_row W1 _ 3 _ _ _ hn]; rfl, by rw [cell_of_row W1 _ 4 _ _ _ hn]; rfl, by rw [cell_of_row W1 _ 5 _ _ _ hn]; rfl, by rw [cell_of_row W1 _ 6 _ _ _ hn]; rfl, by rw [cell_of_row W1 _ 7 _ _ _ hn]; rfl, by rw [cell_of_row W1 _ 8 _ _ _ hn]; rfl, by rw [cell_of_row W1 _ 9 _ _ _ hn]; rfl, fun q => frozen_of_row W1 _ q _ _ hn⟩)
  have hF1 : F.answers W1.tape := by rw [HT.out.tape]; exact HF.out
  have hF' := answers_open hF1
  have hb7 : W.heap.size < W1.heap.size := by omega
  have hge : w.heap.size ≤ W.heap.size := hWs
  have HLT : Hid (ts < W1.heap.size) := Lib.hid (lt_of_block hl1)
  have HNE : Hid (ts ≠ W.heap.size) := Lib.hid (by omega)
  have HL := Lib.hid hl1
  clear hn hl hl1 hF1 k13 k14 hz hlt hWs
  generalize W.heap.size = b7 at *
  clear HB
  have HT2 := Lib.hid (((Touch.refl (fun _ => False) W1).alloc (.cells #[.iface 9 str0] 20)).drew.drew)
  have TK2 := Lib.hid (TK.out.of_block (HT2.out.block b7 hb7 id))
  go_region_held3 (fun w' => w'.cell? ⟨ts, 0, none⟩ = some str0 ∧ w'.cell? ⟨ts, 11, none⟩ = some (.int .i32 0) ∧ w'.cell? ⟨ts, 12, none⟩ = some (.int .i32 0)) (first | (go_keep) | (have hlt2 : ts < W1.heap.size := HLT.out; have e := (tt.t.block ts (Nat.lt_of_lt_of_le hlt2 HT2.out.size) (HNE.out)).trans ((HT2.out.block ts hlt2 id).trans HL.out); exact ⟨cell_of_row _ _ 0 _ _ _ e, cell_of_row _ _ 11 _ _ _ e, cell_of_row _ _ 12 _ _ _ e⟩)) ((go_at_call 11; refine (msg11 ((W1.alloc (.cells #[.iface 9 str0] 20)).drew.drew) b7 0 false 0 _ TK2.out).mono ?_; rintro _ W2 ⟨g, rfl, tk, tt⟩))
  all_goals
    have HQ : Hid (Touch (fun b => b = p) w W2) := Lib.hid (by
      have h1 : Touch (fun _ => False) w ((W1.alloc (.cells #[.iface 9 str0] 20)).drew.drew) := HT.out.trans HT2.out
      exact ⟨tt.t.os.trans h1.os, tt.t.tape.trans h1.tape, tt.t.output.trans h1.output, Nat.le_trans h1.size tt.t.size, fun k hk _ => (tt.t.block k (Nat.lt_of_lt_of_le hk h1.size) (by omega)).trans (h1.block k hk id)⟩)
    have HF2 : Hid (Touch (fun _ => False) w W2) := Lib.hid (by
      have h1 : Touch (fun _ => False) w ((W1.alloc (.cells #[.iface 9 str0] 20)).drew.drew) := HT.out.trans HT2.out
      exact ⟨tt.t.os.trans h1.os, tt.t.tape.trans h1.tape, tt.t.output.trans h1.output, Nat.le_trans h1.size tt.t.size, fun k hk _ => (tt.t.block k (Nat.lt_of_lt_of_le hk h1.size) (by omega)).trans (h1.block k hk id)⟩)
    clear tk tt
    go_simp
    go_wp2_with fail
    go_ret2
    refine ⟨_, _, rfl, ⟨_, Nts.one W2 g _⟩, (HP.out.of HF2.out).of ((Touch.refl _ _).alloc _), HQ.out.alloc _⟩
end Go.Proofs.YtgbcclfachgbjaaFmt.ws
