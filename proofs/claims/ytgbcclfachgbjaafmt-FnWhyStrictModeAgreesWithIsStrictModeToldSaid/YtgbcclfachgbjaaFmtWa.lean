/-
  Why a scope is strict: the line tracker over an empty text.
-/
import Derived.Test.YtgbcclfachgbjaaFmtProg
import Derived.WalkKit
import Derived.ProofKit
import Derived.Below
import Derived.ChangeOld
import Derived.OpenShut
import Derived.Lib.Hide
import Derived.WalkLawsBesides
import Derived.Deep.OwnRows
import Derived.Laws.Rows
import Derived.WalkSpells
import Derived.Laws.Tables
import Derived.WalkSmall
import Derived.Outline
import Derived.BigQuiet
import Derived.Deep.QuietTactic
import Derived.Deep.RegionLaw
import Derived.Deep.CutBlock
import Derived.IntWalk
import Derived.OwnWalk
import Derived.Deep.WholeRow
import Derived.Deep.RegionWith
import Derived.Deep.DeepCutAuto
namespace Go.Proofs.YtgbcclfachgbjaaFmt.ws
open Go.ChangeShapes Go.WideShapes Go.ChangeAt Go.RowKit Go.Deep
set_option linter.unusedVariables false
set_option linter.unusedSimpArgs false
set_option maxRecDepth 100000
set_option maxHeartbeats 4000000
/-- But for the blocks F, what was there is as it was. -/
structure Touch (F : Nat → Prop) (w w' : World) : Prop where
  os : w'.os = w.os
  tape : w'.tape = w.tape
  output : w'.output = w.output
  size : w.heap.size ≤ w'.heap.size
  block : ∀ k, k < w.heap.size → ¬ F k → w'.heap[k]? = w.heap[k]?
theorem Touch.refl (F : Nat → Prop) (w : World) : Touch F w w := ⟨rfl, rfl, rfl, Nat.le_refl _, fun _ _ _ => rfl⟩
theorem Touch.trans {F : Nat → Prop} {a b c : World} (h : Touch F a b) (k : Touch F b c) : Touch F a c :=
  ⟨k.os.trans h.os, k.tape.trans h.tape, k.output.trans h.output, Nat.le_trans h.size k.size, fun i hi hn => (k.block i (Nat.lt_of_lt_of_le hi h.size) hn).trans (h.block i hi hn)⟩
theorem Touch.mono {F G : Nat → Prop} {w w' : World} (h : Touch F w w') (e : ∀ k, k < w.heap.size → F k → G k) : Touch G w w' := ⟨h.os, h.tape, h.output, h.size, fun k hk hn => h.block k hk fun f => hn (e k hk f)⟩
theorem Touch.drew {F : Nat → Prop} {a w : World} (h : Touch F a w) : Touch F a w.drew := ⟨h.os, h.tape, h.output, h.size, h.block⟩
theorem Touch.alloc {F : Nat → Prop} {a w : World} (h : Touch F a w) (o : Obj) : Touch F a (w.alloc o) :=
  h.trans ⟨rfl, rfl, rfl, by simp, fun k hk _ => Below.heap_alloc _ _ _ hk⟩
theorem Touch.setCell {F : Nat → Prop} {a w : World} (h : Touch F a w) (p : Addr) (hp : p.block < a.heap.size → F p.block) (u : Value) : Touch F a (w.setCell p u) :=
  ⟨h.os, h.tape, h.output, by rw [show (w.setCell p u).heap.size = w.heap.size by simp [World.setCell]]; exact h.size, fun k hk hn => (Below.heap_setCell _ _ _ _ (fun e => hn (by rw [e]; exact hp (by rw [← e]; exact hk)))).trans (h.block k hk hn)⟩
theorem Touch.grown {F : Nat → Prop} {a w w' : World} {row : Option Nat} (h : Touch F a w) (hg : w.grownBy w' row) (hr : ∀ k, row = some k → k < a.heap.size → F k) : Touch F a w' :=
  ⟨hg.os.trans h.os, hg.tape.trans h.tape, hg.output.trans h.output, Nat.le_trans h.size hg.size, fun k hk hn => (hg.block k (Nat.lt_of_lt_of_le hk h.size) (fun e => hn (hr k e.symm hk))).trans (h.block k hk hn)⟩
theorem Touch.below {F : Nat → Prop} {w w' : World} (h : Touch F w w') {B : Nat} (hB : B ≤ w.heap.size) (hF : ∀ k, F k → B ≤ k) : Below B w w' :=
  ⟨h.os, h.tape, h.output, h.size, fun k hk => h.block k (by omega) (fun f => by have := hF k f; omega)⟩
theorem Touch.of_below {w w' : World} (h : Below w.heap.size w w') (F : Nat → Prop) : Touch F w w' := ⟨h.os, h.tape, h.output, h.size, fun k hk _ => h.block k hk⟩
theorem Touch.then {F : Nat → Prop} {a w w' : World} (h : Touch F a w) (hb : Below w.heap.size w w') : Touch F a w' := ⟨hb.os.trans h.os, hb.tape.trans h.tape, hb.output.trans h.output, Nat.le_trans h.size hb.size, fun k hk hn => (hb.block k (Nat.lt_of_lt_of_le hk h.size)).trans (h.block k hk hn)⟩
theorem tdN {F : Nat → Prop} {a w : World} (h : Touch F a w) (q : Nat) : Touch F a (w.drewN q) := ⟨h.os, h.tape, h.output, h.size, h.block⟩
abbrev str0 : Value := .string ByteArray.empty
abbrev ptr (b o : Nat) : Value := .pointer (some ⟨b, o, none⟩)
/-- A tracker over an empty text, at place o of block b; h: is the line's end known? -/
structure Tk (w : World) (b o : Nat) (h : Bool) : Prop where
  c0 : w.cell? ⟨b, o, none⟩ = some str0
  c1 : w.cell? ⟨b, o + 1, none⟩ = some str0
  c2 : w.cell? ⟨b, o + 2, none⟩ = some str0
  c3 : w.cell? ⟨b, o + 3, none⟩ = some (.int .i32 0)
  c4 : w.cell? ⟨b, o + 4, none⟩ = some (.int .i32 0)
  c5 : w.cell? ⟨b, o + 5, none⟩ = some (.int .i32 0)
  c6 : w.cell? ⟨b, o + 6, none⟩ = some (.int .i32 0)
  c7 : w.cell? ⟨b, o + 7, none⟩ = some (.bool true)
  c8 : w.cell? ⟨b, o + 8, none⟩ = some (.bool h)
  c9 : w.cell? ⟨b, o + 9, none⟩ = some (.bool true)
  fz : ∀ q, w.frozen? ⟨b, q, none⟩ = false
theorem Tk.of_block {w w' : World} {b o : Nat} {h : Bool} (t : Tk w b o h) (e : w'.heap[b]? = w.heap[b]?) : Tk w' b o h := by
  have c : ∀ q, w'.cell? ⟨b, q, none⟩ = w.cell? ⟨b, q, none⟩ := fun q => World.cell?_of_block (a := ⟨b, q, none⟩) e
  exact ⟨(c _).trans t.c0, (c _).trans t.c1, (c _).trans t.c2, (c _).trans t.c3, (c _).trans t.c4, (c _).trans t.c5, (c _).trans t.c6, (c _).trans t.c7, (c _).trans t.c8, (c _).trans t.c9, fun q => (World.frozen?_of_block (a := ⟨b, q, none⟩) e).trans (t.fz q)⟩
theorem Tk.lt {w : World} {b o : Nat} {h : Bool} (t : Tk w b o h) : b < w.heap.size := block_lt_of_cell t.c0
/-- The line's end is told. -/
theorem Tk.told {w : World} {b o : Nat} (t : Tk w b o false) : Tk ((w.setCell ⟨b, o + 8, none⟩ (.bool true)).setCell ⟨b, o + 6, none⟩ (.int .i32 0)) b o true := by
  have k : ∀ q, q ≠ 6 → q ≠ 8 → ((w.setCell ⟨b, o + 8, none⟩ (.bool true)).setCell ⟨b, o + 6, none⟩ (.int .i32 0)).cell? ⟨b, o + q, none⟩ = w.cell? ⟨b, o + q, none⟩ := fun q h1 h2 => by
    rw [World.cell?_setCell_other _ _ _ _ (fun e => by have := congrArg Addr.off e; simp at this; omega), World.cell?_setCell_other _ _ _ _ (fun e => by have := congrArg Addr.off e; simp at this; omega)]
  have h8 : (w.setCell ⟨b, o + 8, none⟩ (.bool true)).cell? ⟨b, o + 8, none⟩ = some (.bool true) := World.cell?_setCell_same _ _ _ t.c8
  have h6 : (w.setCell ⟨b, o + 8, none⟩ (.bool true)).cell? ⟨b, o + 6, none⟩ = some (.int .i32 0) := by
    rw [World.cell?_setCell_other _ _ _ _ (fun e => by have := congrArg Addr.off e; simp at this)]; exact t.c6
  refine ⟨(k 0 (by omega) (by omega)).trans t.c0, (k 1 (by omega) (by omega)).trans t.c1, (k 2 (by omega) (by omega)).trans t.c2, (k 3 (by omega) (by omega)).trans t.c3, (k 4 (by omega) (by omega)).trans t.c4, (k 5 (by omega) (by omega)).trans t.c5, World.cell?_setCell_same _ _ _ h6, (k 7 (by omega) (by omega)).trans t.c7, ?_, (k 9 (by omega) (by omega)).trans t.c9, fun q => ?_⟩
  · rw [World.cell?_setCell_other _ _ _ _ (fun e => by have := congrArg Addr.off e; simp at this)]; exact h8
  · rw [World.frozen?_setCell, World.frozen?_setCell]; exact t.fz q
theorem scan17 (w : World) (b o : Nat) (h : Bool) (t : Tk w b o h) : Calls Tryf.prog 17 #[ptr b o, .int .i32 0] w fun e w' => e = .returned (.tuple #[]) ∧ w = w' := by
  have c0 := t.c0
  have c3 := t.c3
  clear t
  go_enter Tryf.func17, Tryf.ntmps17
  go_wp2_with fail
  go_end0
  exact ⟨rfl, rfl⟩
/-- Nothing but the tracker's line end has changed in block b; other blocks are as they were. -/
structure Tch (b o : Nat) (w w' : World) : Prop where
  t : Touch (fun k => k = b) w w'
  c : ∀ q, q ≠ o + 6 → q ≠ o + 8 → w'.cell? ⟨b, q, none⟩ = w.cell? ⟨b, q, none⟩
  z : ∀ q, w'.frozen? ⟨b, q, none⟩ = w.frozen? ⟨b, q, none⟩
theorem Tch.trans {b o : Nat} {x y z : World} (h : Tch b o x y) (k : Tch b o y z) : Tch b o x z := ⟨h.t.trans k.t, fun q h1 h2 => (k.c q h1 h2).trans (h.c q h1 h2), fun q => (k.z q).trans (h.z q)⟩
theorem Tch.of {b o : Nat} {w w' : World} (h : Touch (fun _ => False) w w') (hb : b < w.heap.size) : Tch b o w w' :=
  ⟨h.mono fun _ _ h => h.elim, fun q _ _ => World.cell?_of_block (a := ⟨b, q, none⟩) (h.block b hb id), fun q => World.frozen?_of_block (a := ⟨b, q, none⟩) (h.block b hb id)⟩
theorem Tch.sets (b o : Nat) (w : World) (u v : Value) : Tch b o w ((w.setCell ⟨b, o + 8, none⟩ u).setCell ⟨b, o + 6, none⟩ v) :=
  ⟨((Touch.refl (fun k => k = b) w).setCell ⟨b, o + 8, none⟩ (fun _ => rfl) _).setCell ⟨b, o + 6, none⟩ (fun _ => rfl) _, fun q h1 h2 => by
    rw [World.cell?_setCell_other _ _ _ _ (fun e => h1 (by have := congrArg Addr.off e; simpa using this.symm)), World.cell?_setCell_other _ _ _ _ (fun e => h2 (by have := congrArg Addr.off e; simpa using this.symm))], fun q => by rw [World.frozen?_setCell, World.frozen?_setCell]⟩
def LineP (w : World) (b o : Nat) (e : Ending) (w' : World) : Prop := e = .returned (.tuple #[.int .i64 0, .int .i64 0, .int .i64 0, .int .i64 0]) ∧ Tk w' b o true ∧ Tch b o w w'
theorem line16 (w : World) (b o : Nat) (h : Bool) (t : Tk w b o h) : Calls Tryf.prog 16 #[ptr b o, .int .i64 0] w (LineP w b o) := by
  have T := Lib.hid t
  have c0 := t.c0
  have c3 := t.c3
  have c4 := t.c4
  have c5 := t.c5
  have c6 := t.c6
  have c7 := t.c7
  have c8 := t.c8
  have f6 := t.fz (o + 6)
  have f8 := t.fz (o + 8)
  cases h with
  | true =>
    clear t
    go_enter Tryf.func16, Tryf.ntmps16
    go_upto_region 21 with (go_at_call 17; refine (scan17 _ b o true T.out).mono ?_; rintro _ _ ⟨rfl, rfl⟩)
    go_quiet (fail)
    go_wp2_with fail
    refine bodyPost_ret (v := .tuple #[.int .i64 0, .int .i64 0, .int .i64 0, .int .i64 0]) (by simp [results, Tryf.results16, go_sem]) rfl ⟨rfl, T.out.of_block rfl, Tch.of (tdN (Touch.refl _ _) _) T.out.lt⟩
  | false =>
    have T2 := Lib.hid t.told
    have HT := Lib.hid (Tch.sets b o w (.bool true) (.int .i32 0))
    clear t
    go_enter Tryf.func16, Tryf.ntmps16
    go_wp2_with (go_at_call 17; refine (scan17 _ b o false T.out).mono ?_; rintro _ _ ⟨rfl, rfl⟩)
    go_loopw [13] (fun v wr => v = .int .i32 0 ∧ w = wr) (fun _ _ => 0)
    case atStart => exact ⟨rfl, rfl⟩
    case round =>
      obtain ⟨rfl, rfl⟩ := hrel
      go_upto_region 21 with fail
      have d0 := T2.out.c0
      have d3 := T2.out.c3
      have d4 := T2.out.c4
      have d5 := T2.out.c5
      have d6 := T2.out.c6
      clear c0 c3 c4 c5 c6 c7 c8 f6 f8
      generalize ((w.setCell ⟨b, o + 8, none⟩ (.bool true)).setCell ⟨b, o + 6, none⟩ (.int .i32 0)) = W at *
      go_quiet (fail)
      go_wp2_with fail
      refine bodyPost_ret (v := .tuple #[.int .i64 0, .int .i64 0, .int .i64 0, .int .i64 0]) (by simp [results, Tryf.results16, go_sem]) rfl ⟨rfl, T2.out.of_block rfl, HT.out.trans (Tch.of (tdN (Touch.refl _ _) _) T2.out.lt)⟩
def LocP (w : World) (b o : Nat) (e : Ending) (w' : World) : Prop := ∃ g, e = .returned (ptr g 0) ∧ Tk w' b o true ∧ Tch b o w w'
theorem loc15 (w : World) (b o : Nat) (h : Bool) (len : Int) (t : Tk w b o h) : Calls Tryf.prog 15 #[ptr b o, .agg #[.int .i32 0, .int .i32 len]] w (LocP w b o) := by
  have hl := t.lt
  have T := Lib.hid (t.of_block (w' := w.alloc (.cells #[.int .i32 0, .int .i32 len] 65)) (Below.heap_alloc _ _ _ hl))
  have HT := Lib.hid (Tch.of (o := o) ((Touch.refl (fun _ => False) w).alloc (.cells #[.int .i32 0, .int .i32 len] 65)) hl)
  have hx := heap_alloc_new w (.cells #[.int .i32 0, .int .i32 len] 65)
  have HX := Lib.hid hx
  have c9 := t.c9
  clear t hx
  go_enter Tryf.func15, Tryf.ntmps15
  go_upto_region 4 with (go_at_call 16; refine (line16 _ b o h T.out).mono ?_; rintro _ W ⟨rfl, tk, tt⟩)
  have HX2 := Lib.hid ((tt.t.block w.heap.size (by simp) (by omega)).trans HX.out)
  have x1 : W.cell? ⟨w.heap.size, 1, none⟩ = some (.int .i32 len) := by rw [cell_of_row W _ 1 _ _ _ HX2.out]; rfl
  have d0 := tk.c0
  have d1 := tk.c1
  have d2 := tk.c2
  have TK := Lib.hid tk
  have TT := Lib.hid (HT.out.trans tt)
  have hs := TK.out.lt
  clear tk tt c9
  go_region
  all_goals
    go_wp2_with fail
    go_ret
    exact ⟨_, rfl, TK.out.of_block (Below.heap_alloc _ _ _ hs), TT.out.trans (Tch.of (((Touch.refl _ _).alloc _).drew) hs)⟩
/-- What a note is made of. -/
abbrev note (g : Nat) (txt : ByteArray) : Value := .agg #[.nilIface, ptr g 0, .string txt, .bool false]
def MsgP (w : World) (b o : Nat) (txt : ByteArray) (e : Ending) (w' : World) : Prop := ∃ g, e = .returned (note g txt) ∧ Tk w' b o true ∧ Tch b o w w'
theorem msg11 (w : World) (b o : Nat) (h : Bool) (len : Int) (txt : ByteArray) (t : Tk w b o h) : Calls Tryf.prog 11 #[ptr b o, .agg #[.int .i32 0, .int .i32 len], .string txt] w (MsgP w b o txt) := by
  have hl := t.lt
  have T := Lib.hid ((t.of_block (w' := w.alloc (.cells #[.int .i32 0, .int .i32 len] 65)) (Below.heap_alloc _ _ _ hl)).of_block (w' := (w.alloc (.cells #[.int .i32 0, .int .i32 len] 65)).alloc (.cells #[.nilIface, .pointer none, str0, .bool false] 48)) (Below.heap_alloc _ _ _ (by simp; omega)))
  have HT := Lib.hid (Tch.of (o := o) (((Touch.refl (fun _ => False) w).alloc (.cells #[.int .i32 0, .int .i32 len] 65)).alloc (.cells #[.nilIface, .pointer none, str0, .bool false] 48)) hl)
  have hx := heap_alloc_new (w.alloc (.cells #[.int .i32 0, .int .i32 len] 65)) (.cells #[.nilIface, .pointer none, str0, .bool false] 48)
  rw [show (w.alloc (.cells #[.int .i32 0, .int .i32 len] 65)).heap.size = w.heap.size + 1 by simp] at hx
  have HX := Lib.hid hx
  have hsz : ((w.alloc (.cells #[.int .i32 0, .int .i32 len] 65)).alloc (.cells #[.nilIface, .pointer none, str0, .bool false] 48)).heap.size = w.heap.size + 2 := by simp
  have HSZ := Lib.hid hsz
  clear t hx hsz
  go_enter Tryf.func11, Tryf.ntmps11
  go_wp2_with (go_at_call 15; refine (loc15 _ b o h len T.out).mono ?_; rintro _ W ⟨g, rfl, tk, tt⟩; have m := (tt.t.block (w.heap.size + 1) (by rw [HSZ.out]; omega) (by omega)).trans HX.out; have q0 : W.cell? ⟨w.heap.size + 1, 0, none⟩ = some .nilIface := (by rw [cell_of_row W _ 0 _ _ _ m]; rfl); have q1 : W.cell? ⟨w.heap.size + 1, 1, none⟩ = some (.pointer none) := (by rw [cell_of_row W _ 1 _ _ _ m]; rfl); have q2 : W.cell? ⟨w.heap.size + 1, 2, none⟩ = some str0 := (by rw [cell_of_row W _ 2 _ _ _ m]; rfl); have q3 : W.cell? ⟨w.heap.size + 1, 3, none⟩ = some (.bool false) := (by rw [cell_of_row W _ 3 _ _ _ m]; rfl); have z0 : W.frozen? ⟨w.heap.size + 1, 0, none⟩ = false := frozen_of_row W _ 0 _ _ m; have z1 : W.frozen? ⟨w.heap.size + 1, 1, none⟩ = false := frozen_of_row W _ 1 _ _ m; have z2 : W.frozen? ⟨w.heap.size + 1, 2, none⟩ = false := frozen_of_row W _ 2 _ _ m; have z3 : W.frozen? ⟨w.heap.size + 1, 3, none⟩ = false := frozen_of_row W _ 3 _ _ m; have TK := Lib.hid tk; have TT := Lib.hid (HT.out.trans tt); clear tk tt m)
  have e0 : ((((W.setCell ⟨w.heap.size + 1, 0, none⟩ .nilIface).setCell ⟨w.heap.size + 1, 1, none⟩ (ptr g 0)).setCell ⟨w.heap.size + 1, 2, none⟩ (.string txt)).setCell ⟨w.heap.size + 1, 3, none⟩ (.bool false)).cell? ⟨w.heap.size + 1, 0, none⟩ = some .nilIface := by go_simp
  have e1 : ((((W.setCell ⟨w.heap.size + 1, 0, none⟩ .nilIface).setCell ⟨w.heap.size + 1, 1, none⟩ (ptr g 0)).setCell ⟨w.heap.size + 1, 2, none⟩ (.string txt)).setCell ⟨w.heap.size + 1, 3, none⟩ (.bool false)).cell? ⟨w.heap.size + 1, 1, none⟩ = some (ptr g 0) := by go_simp
  have e2 : ((((W.setCell ⟨w.heap.size + 1, 0, none⟩ .nilIface).setCell ⟨w.heap.size + 1, 1, none⟩ (ptr g 0)).setCell ⟨w.heap.size + 1, 2, none⟩ (.string txt)).setCell ⟨w.heap.size + 1, 3, none⟩ (.bool false)).cell? ⟨w.heap.size + 1, 2, none⟩ = some (.string txt) := by go_simp
  have e3 : ((((W.setCell ⟨w.heap.size + 1, 0, none⟩ .nilIface).setCell ⟨w.heap.size + 1, 1, none⟩ (ptr g 0)).setCell ⟨w.heap.size + 1, 2, none⟩ (.string txt)).setCell ⟨w.heap.size + 1, 3, none⟩ (.bool false)).cell? ⟨w.heap.size + 1, 3, none⟩ = some (.bool false) := by go_simp
  have hne : b ≠ w.heap.size + 1 := by omega
  have hx : ¬ w.heap.size + 1 < w.heap.size := by omega
  refine bodyPost_ret (v := note g txt) (by simp [results, Tryf.results11, go_sem, e0, e1, e2, e3]) rfl ⟨_, rfl, TK.out.of_block ((Below.heap_setCell _ _ _ _ hne).trans ((Below.heap_setCell _ _ _ _ hne).trans ((Below.heap_setCell _ _ _ _ hne).trans (Below.heap_setCell _ _ _ _ hne)))), ?_⟩
  have hb : ((((W.setCell ⟨w.heap.size + 1, 0, none⟩ .nilIface).setCell ⟨w.heap.size + 1, 1, none⟩ (ptr g 0)).setCell ⟨w.heap.size + 1, 2, none⟩ (.string txt)).setCell ⟨w.heap.size + 1, 3, none⟩ (.bool false)).heap[b]? = W.heap[b]? := (Below.heap_setCell _ _ _ _ hne).trans ((Below.heap_setCell _ _ _ _ hne).trans ((Below.heap_setCell _ _ _ _ hne).trans (Below.heap_setCell _ _ _ _ hne)))
  refine ⟨?_, fun q h1 h2 => (World.cell?_of_block (a := ⟨b, q, none⟩) hb).trans (TT.out.c q h1 h2), fun q => (World.frozen?_of_block (a := ⟨b, q, none⟩) hb).trans (TT.out.z q)⟩
  exact (((TT.out.t.setCell ⟨w.heap.size + 1, 0, none⟩ (fun h => absurd h hx) _).setCell ⟨w.heap.size + 1, 1, none⟩ (fun h => absurd h hx) _).setCell ⟨w.heap.size + 1, 2, none⟩ (fun h => absurd h hx) _).setCell ⟨w.heap.size + 1, 3, none⟩ (fun h => absurd h hx) _
end Go.Proofs.YtgbcclfachgbjaaFmt.ws
