/-
  The new parser, walked: the tracker, the log, the block (without WalkKit: it lays the building of great structs open).
-/
import Derived.Test.YtfnicbfdfceagaaFmtProg
import Derived.Below
import Derived.BigQuiet
import Derived.ChangeOld
import Derived.Conc.MuLone
import Derived.Deep.CutBlock
import Derived.Deep.MidRow
import Derived.Deep.OwnRows
import Derived.Deep.QuietTactic
import Derived.Deep.RegionHeld3
import Derived.Deep.RegionLaw
import Derived.Deep.RegionWith
import Derived.Deep.WholeRow
import Derived.IntWalk
import Derived.Laws.EntriesVeiled
import Derived.Laws.Rows
import Derived.Laws.Tables
import Derived.Lib.Hide
import Derived.OpenShut
import Derived.Outline
import Derived.ProofKit
import Derived.StillTailTactics
import Derived.Laws.ByValue
import Derived.Laws.Alloc2
import Derived.Laws.NewBlocks
import Derived.Laws.Pointers
import Derived.Laws.Cells
import Derived.Laws.Entries
import Derived.Laws.Small
namespace Go.Proofs.YtfnicbfdfceagaaFmt.nw
open Go.ChangeShapes Go.WideShapes Go.ChangeAt Go.RowKit Go.Deep
set_option linter.unusedVariables false
set_option linter.unusedSimpArgs false
set_option maxRecDepth 100000
set_option maxHeartbeats 4000000
abbrev str0 : Value := .string ByteArray.empty
abbrev ptr (b o : Nat) : Value := .pointer (some ⟨b, o, none⟩)
abbrev logv (bk bs bm bh : Nat) : Value := .agg #[.func (.func 20) #[] #[ptr bk 0, ptr bm 0, ptr bh 0, ptr bs 0], .func (.func 23) #[] #[ptr bm 0, ptr bh 0], .func (.func 24) #[] #[ptr bm 0, ptr bs 0], .func (.func 25) #[] #[ptr bm 0, ptr bs 0], .int .i8 3, .map none]
/-- A new tracker's cells. -/
abbrev trk (s : ByteArray) : Value := .agg #[.string s, str0, str0, .int .i32 0, .int .i32 0, .int .i32 0, .int .i32 0, .bool true, .bool false, .bool true]
@[go_sem] theorem build65 (s : ByteArray) (w : World) : (Instr.build 65 #[(0, .string s), (1, .agg #[str0, str0]), (6, .bool true), (8, .bool true)]).run Tryf.prog w = .ok (trk s) w := run_build w 65 _ _ (by kernel_rfl)
@[go_sem] theorem build65f (w : World) : (Instr.build 65 #[(8, .bool false)]).run Tryf.prog w = .ok (.agg #[str0, str0, str0, .int .i32 0, .int .i32 0, .int .i32 0, .int .i32 0, .bool false, .bool false, .bool false]) w := run_build w 65 _ _ (by kernel_rfl)
@[go_sem] theorem build61 (f20 f23 f24 f25 : Array Value) (w : World) : (Instr.build 61 #[(4, .int .i8 3), (5, .map none), (0, .func (.func 20) #[] f20), (1, .func (.func 23) #[] f23), (2, .func (.func 24) #[] f24), (3, .func (.func 25) #[] f25)]).run Tryf.prog w = .ok (.agg #[.func (.func 20) #[] f20, .func (.func 23) #[] f23, .func (.func 24) #[] f24, .func (.func 25) #[] f25, .int .i8 3, .map none]) w := run_build w 61 _ _ (by kernel_rfl)
theorem mk16 (w : World) (b : Nat) (s : ByteArray) (c0 : w.cell? ⟨b, 0, none⟩ = some str0) (c1 : w.cell? ⟨b, 1, none⟩ = some str0) (c3 : w.cell? ⟨b, 3, none⟩ = some (.string s)) :
    Calls Tryf.prog 16 #[ptr b 0] w fun e w' => e = .returned (trk s) ∧ Below w.heap.size w w' := by
  have hl : b < w.heap.size := block_lt_of_cell c0
  go_enter Tryf.func16, Tryf.ntmps16
  go_wp2_with fail
  go_region
  all_goals
    go_wp2_with fail
    refine bodyPost_ret (v := trk s) (by simp [results, Tryf.results16, go_sem]) rfl ⟨rfl, ((Below.refl _ _).alloc (Nat.le_refl _) _).drew⟩
/-- A new log's blocks, from block N on. -/
structure LF (w : World) (N : Nat) : Prop where
  kind : w.cell? ⟨N, 0, none⟩ = some (.int .u8 0)
  mu : w.cell? ⟨N + 3, 0, none⟩ = some (.int .i32 0)
  muz : w.frozen? ⟨N + 3, 0, none⟩ = false
  has : w.cell? ⟨N + 4, 0, none⟩ = some (.bool false)
  hasz : w.frozen? ⟨N + 4, 0, none⟩ = false
  msgs : w.cell? ⟨N + 2, 0, none⟩ = some (.slice none 0 0)
  msgz : w.frozen? ⟨N + 2, 0, none⟩ = false
theorem LF.below {w w' : World} {N B : Nat} (h : LF w N) (k : Below B w w') (hB : N + 4 < B) : LF w' N := by
  have c : ∀ {j : Nat} {u : Value}, j ≤ 4 → w.cell? ⟨N + j, 0, none⟩ = some u → w'.cell? ⟨N + j, 0, none⟩ = some u := fun {j u} hj h => (k.cell (p := ⟨N + j, 0, none⟩) (by show N + j < B; omega)).trans h
  have z : ∀ {j : Nat}, j ≤ 4 → w.frozen? ⟨N + j, 0, none⟩ = false → w'.frozen? ⟨N + j, 0, none⟩ = false := fun {j} hj h => (World.frozen?_of_block (a := ⟨N + j, 0, none⟩) (k.block (N + j) (by omega))).trans h
  exact ⟨c (j := 0) (by omega) h.kind, c (by omega) h.mu, z (by omega) h.muz, c (by omega) h.has, z (by omega) h.hasz, c (by omega) h.msgs, z (by omega) h.msgz⟩
theorem heap5 (w : World) (o0 o1 o2 o3 o4 : Obj) (W : World) (hW : (((((w.alloc o0).alloc o1).alloc o2).alloc o3).alloc o4) = W) :
    W.heap[w.heap.size]? = some o0 ∧ W.heap[w.heap.size + 2]? = some o2 ∧ W.heap[w.heap.size + 3]? = some o3 ∧ W.heap[w.heap.size + 4]? = some o4 := by
  subst hW
  have a0 := heap_alloc_new w o0
  have a2 := heap_alloc_new ((w.alloc o0).alloc o1) o2
  have a3 := heap_alloc_new (((w.alloc o0).alloc o1).alloc o2) o3
  have a4 := heap_alloc_new ((((w.alloc o0).alloc o1).alloc o2).alloc o3) o4
  rw [show ((w.alloc o0).alloc o1).heap.size = w.heap.size + 2 by simp] at a2
  rw [show (((w.alloc o0).alloc o1).alloc o2).heap.size = w.heap.size + 3 by simp] at a3
  rw [show ((((w.alloc o0).alloc o1).alloc o2).alloc o3).heap.size = w.heap.size + 4 by simp] at a4
  refine ⟨?_, ?_, ?_, a4⟩
  · exact (Below.heap_alloc _ _ _ (by simp; omega)).trans ((Below.heap_alloc _ _ _ (by simp; omega)).trans ((Below.heap_alloc _ _ _ (by simp; omega)).trans ((Below.heap_alloc _ _ _ (by simp)).trans a0)))
  · exact (Below.heap_alloc _ _ _ (by simp)).trans ((Below.heap_alloc _ _ _ (by simp)).trans a2)
  · exact (Below.heap_alloc _ _ _ (by simp)).trans a3
def LogN (w : World) (e : Ending) (w' : World) : Prop :=
  e = .returned (logv w.heap.size (w.heap.size + 2) (w.heap.size + 3) (w.heap.size + 4)) ∧ LF w' w.heap.size ∧ Below w.heap.size w w' ∧ w'.heap.size = w.heap.size + 5
theorem log15 (w : World) : Calls Tryf.prog 15 #[.int .u8 0, .map none] w (LogN w) := by
  go_enter Tryf.func15, Tryf.ntmps15
  go_wp2_with fail
  refine bodyPost_ret (v := logv w.heap.size (w.heap.size + 2) (w.heap.size + 3) (w.heap.size + 4)) (by simp [results, Tryf.results15, go_sem]) rfl ?_
  refine ⟨rfl, ?_, (((((Below.refl _ w).alloc (Nat.le_refl _) _).alloc (by simp) _).alloc (by simp; omega) _).alloc (by simp; omega) _).alloc (by simp; omega) _, by simp⟩
  obtain ⟨h0, h2, h3, h4⟩ := heap5 w _ _ _ _ _ _ rfl
  exact ⟨by rw [cell_of_row _ _ _ _ _ _ h0]; rfl, by rw [cell_of_row _ _ _ _ _ _ h3]; rfl, frozen_of_row _ _ _ _ _ h3, by rw [cell_of_row _ _ _ _ _ _ h4]; rfl, frozen_of_row _ _ _ _ _ h4, by rw [cell_of_row _ _ _ _ _ _ h2]; rfl, frozen_of_row _ _ _ _ _ h2⟩
abbrev srcC (s : ByteArray) : Array Value := #[str0, str0, str0, .string s, str0, str0, str0, str0, .int .u8 0, .int .u32 0]
/-- The source's cells. -/
def SC (w : World) (d : Nat) (s : ByteArray) : Prop :=
  w.cell? ⟨d, 0, none⟩ = some str0 ∧ w.cell? ⟨d, 1, none⟩ = some str0 ∧ w.cell? ⟨d, 2, none⟩ = some str0 ∧ w.cell? ⟨d, 3, none⟩ = some (.string s) ∧ w.cell? ⟨d, 4, none⟩ = some str0 ∧ w.cell? ⟨d, 5, none⟩ = some str0 ∧ w.cell? ⟨d, 6, none⟩ = some str0 ∧ w.cell? ⟨d, 7, none⟩ = some str0 ∧ w.cell? ⟨d, 8, none⟩ = some (.int .u8 0) ∧ w.cell? ⟨d, 9, none⟩ = some (.int .u32 0)
theorem SC.below {w w' : World} {d B : Nat} {s : ByteArray} (h : SC w d s) (k : Below B w w') (hd : d < B) : SC w' d s := by
  have c : ∀ q, w'.cell? ⟨d, q, none⟩ = w.cell? ⟨d, q, none⟩ := fun q => k.cell (p := ⟨d, q, none⟩) hd
  obtain ⟨h0, h1, h2, h3, h4, h5, h6, h7, h8, h9⟩ := h
  exact ⟨(c _).trans h0, (c _).trans h1, (c _).trans h2, (c _).trans h3, (c _).trans h4, (c _).trans h5, (c _).trans h6, (c _).trans h7, (c _).trans h8, (c _).trans h9⟩
/-- The new parser's cells. -/
noncomputable def newC (bk bs bm bh : Nat) (s : ByteArray) : Array Value := (Tryf.prog.built 170 [(1, logv bk bs bm bh), (2, .agg (srcC s)), (3, trk s)]).getD #[]
@[go_sem] theorem build170 (bk bs bm bh : Nat) (s : ByteArray) (w : World) : (Instr.build 170 #[(1, logv bk bs bm bh), (2, .agg (srcC s)), (3, trk s)]).run Tryf.prog w = .ok (.agg (newC bk bs bm bh s)) w := run_build w 170 _ _ (by kernel_rfl)
theorem newC_at (bk bs bm bh : Nat) (s : ByteArray) : (newC bk bs bm bh s)[51]? = some (.func (.func 20) #[] #[ptr bk 0, ptr bm 0, ptr bh 0, ptr bs 0]) ∧ (newC bk bs bm bh s)[52]? = some (.func (.func 23) #[] #[ptr bm 0, ptr bh 0]) ∧ (newC bk bs bm bh s)[53]? = some (.func (.func 24) #[] #[ptr bm 0, ptr bs 0]) ∧ (newC bk bs bm bh s)[54]? = some (.func (.func 25) #[] #[ptr bm 0, ptr bs 0])
    ∧ (newC bk bs bm bh s)[55]? = some (.int .i8 3) ∧ (newC bk bs bm bh s)[56]? = some (.map none) ∧ (newC bk bs bm bh s)[60]? = some (.string s)
    ∧ (newC bk bs bm bh s)[67]? = some (.string s) ∧ (newC bk bs bm bh s)[68]? = some str0 ∧ (newC bk bs bm bh s)[69]? = some str0 ∧ (newC bk bs bm bh s)[70]? = some (.int .i32 0) ∧ (newC bk bs bm bh s)[71]? = some (.int .i32 0) ∧ (newC bk bs bm bh s)[72]? = some (.int .i32 0) ∧ (newC bk bs bm bh s)[73]? = some (.int .i32 0)
    ∧ (newC bk bs bm bh s)[74]? = some (.bool true) ∧ (newC bk bs bm bh s)[75]? = some (.bool false) ∧ (newC bk bs bm bh s)[76]? = some (.bool true) := by
  refine ⟨?_, ?_, ?_, ?_, ?_, ?_, ?_, ?_, ?_, ?_, ?_, ?_, ?_, ?_, ?_, ?_, ?_⟩ <;> kernel_rfl
@[go_sem] theorem build53 (s : ByteArray) (w : World) : (Instr.build 53 #[(2, .string s)]).run Tryf.prog w = .ok (.agg (srcC s)) w := run_build w 53 _ _ (by kernel_rfl)
def NewP (w : World) (s : ByteArray) (e : Ending) (w' : World) : Prop :=
  ∃ b N, e = .returned (ptr b 0) ∧ w.heap.size ≤ N ∧ N + 4 < b ∧ LF w' N ∧ w'.heap[b]? = some (.cells (newC N (N + 2) (N + 3) (N + 4) s) 170 (0, 0)) ∧ Below w.heap.size w w'
theorem new10 (w : World) (s : ByteArray) : Calls Tryf.prog 10 #[.string s] w (NewP w s) := by
  go_enter Tryf.func10, Tryf.ntmps10
  go_upto_region 2 with fail
  have hx := heap_alloc_new w (.cells (srcC s) 53)
  have B0 := Lib.hid ((Below.refl w.heap.size w).alloc (Nat.le_refl _) (.cells (srcC s) 53))
  have hsz : (w.alloc (.cells (srcC s) 53)).heap.size = w.heap.size + 1 := by simp
  change Code.wp _ _ _ _ (w.alloc (.cells (srcC s) 53))
  generalize (w.alloc (.cells (srcC s) 53)) = W1 at *
  obtain ⟨N, hN⟩ : ∃ N, w.heap.size = N := ⟨_, rfl⟩
  rw [hN] at hx hsz ⊢
  have S0 := Lib.hid (show SC W1 N s from by unfold SC; refine ⟨?_, ?_, ?_, ?_, ?_, ?_, ?_, ?_, ?_, ?_⟩ <;> (rw [cell_of_row W1 _ _ _ _ _ hx]; rfl))
  obtain ⟨k0, k1, k2, k3, k4, k5, k6, k7, k8, k9⟩ := S0.out
  have HZ := Lib.hid hsz
  clear hx hsz
  go_region_held3 (fun w' => w'.cell? ⟨N, 0, none⟩ = some str0 ∧ w'.cell? ⟨N, 1, none⟩ = some str0 ∧ w'.cell? ⟨N, 2, none⟩ = some str0 ∧ w'.cell? ⟨N, 3, none⟩ = some (.string s) ∧ w'.cell? ⟨N, 4, none⟩ = some str0 ∧ w'.cell? ⟨N, 5, none⟩ = some str0 ∧ w'.cell? ⟨N, 6, none⟩ = some str0 ∧ w'.cell? ⟨N, 7, none⟩ = some str0 ∧ w'.cell? ⟨N, 8, none⟩ = some (.int .u8 0) ∧ w'.cell? ⟨N, 9, none⟩ = some (.int .u32 0)) (first | (exact S0.out) | (exact S2.out) | (exact S3.out) | (go_keep)) (first | (go_at_call 15; refine (log15 W1.drew).mono ?_; rintro _ W2 ⟨rfl, lf, b2, sz⟩; have S2 := Lib.hid (show SC W2 N s from SC.below (w := W1.drew) S0.out b2 (by have := HZ.out; show N < W1.heap.size; omega)); have LF2 := Lib.hid lf; have B2 := Lib.hid b2; have Z2 := Lib.hid sz; clear lf b2 sz) | (go_at_call 16; refine (mk16 _ N s S2.out.1 S2.out.2.1 S2.out.2.2.2.1).mono ?_; rintro _ W3 ⟨rfl, b3⟩; have S3 := Lib.hid (show SC W3 N s from S2.out.below b3 (by have := HZ.out; have := Z2.out; show N < W2.heap.size; simp at *; omega)); have B3 := Lib.hid b3; clear b3))
  all_goals
    go_wp2_with fail
    have hz := HZ.out
    have z2 := Z2.out
    simp only [show W1.drew.heap = W1.heap from rfl] at z2
    have hs3 := B3.out.size
    have l2 := LF2.out
    simp only [show W1.drew.heap = W1.heap from rfl] at l2
    have l3 := l2.below B3.out (by omega)
    have e0 : Below w.heap.size w W3 := ((B0.out.drew).trans (B2.out.mono (by show w.heap.size ≤ W1.heap.size; omega))).trans (B3.out.mono (by omega))
    refine bodyPost_ret (v := ptr W3.heap.size 0) (by simp [results, Tryf.results10, go_sem]) rfl ?_
    exact ⟨_, W1.heap.size, rfl, by omega, by omega, (l3.below ((Below.refl W3.heap.size W3).alloc (Nat.le_refl _) _) (by omega)), heap_alloc_new W3 _, e0.alloc (by omega) _⟩
end Go.Proofs.YtfnicbfdfceagaaFmt.nw
