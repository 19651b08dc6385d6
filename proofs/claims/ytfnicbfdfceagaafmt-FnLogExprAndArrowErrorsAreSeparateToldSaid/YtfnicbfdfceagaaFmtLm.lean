/-
  A message's location and data, walked.
-/
import Derived.Test.YtfnicbfdfceagaaFmtLl
namespace Go.Proofs.YtfnicbfdfceagaaFmt.lg
open Go.ChangeShapes Go.WideShapes Go.ChangeAt Go.RowKit Go.Deep
set_option linter.unusedVariables false
set_option linter.unusedSimpArgs false
set_option maxRecDepth 100000
set_option maxHeartbeats 4000000
abbrev rng (st len : Int) : Value := .agg #[.int .i32 st, .int .i32 len]
/-- A location of a given length. -/
def LocOk (w : World) (g : Nat) (len : Int) : Prop := ∃ ln cl : Int, w.cell? ⟨g, 0, none⟩ = some str0 ∧ w.cell? ⟨g, 1, none⟩ = some str0 ∧ w.cell? ⟨g, 5, none⟩ = some (i64 ln) ∧ w.cell? ⟨g, 6, none⟩ = some (i64 cl) ∧ w.cell? ⟨g, 7, none⟩ = some (i64 len)
theorem LocOk.of_block {w w' : World} {g : Nat} {len : Int} (h : LocOk w g len) (e : w'.heap[g]? = w.heap[g]?) : LocOk w' g len := by
  obtain ⟨ln, cl, a, b, c, d, f⟩ := h
  have k : ∀ q, w'.cell? ⟨g, q, none⟩ = w.cell? ⟨g, q, none⟩ := fun q => World.cell?_of_block (a := ⟨g, q, none⟩) e
  exact ⟨ln, cl, (k _).trans a, (k _).trans b, (k _).trans c, (k _).trans d, (k _).trans f⟩
theorem LocOk.lt {w : World} {g : Nat} {len : Int} (h : LocOk w g len) : g < w.heap.size := by obtain ⟨ln, cl, a, -⟩ := h; exact block_lt_of_cell a
/-- A location of a given length, in a block that was laid since. -/
def LocP (w : World) (b o : Nat) (s : ByteArray) (len : Int) (e : Ending) (w' : World) : Prop := ∃ g, e = .returned (ptr g 0) ∧ w.heap.size ≤ g ∧ LocOk w' g len ∧ TG w' b o s ∧ Tch b o w w'
theorem TG.of_block {w w' : World} {b o : Nat} {s : ByteArray} (t : TG w b o s) (e : w'.heap[b]? = w.heap[b]?) : TG w' b o s := by
  obtain ⟨_, _, _, _, _, _, t, g⟩ := t
  exact TG.mk (t.of_block e) g
theorem TG.lt {w : World} {b o : Nat} {s : ByteArray} (t : TG w b o s) : b < w.heap.size := by
  obtain ⟨_, _, _, _, _, _, t, g⟩ := t
  exact t.lt
theorem loc50 (w : World) (b o : Nat) (s : ByteArray) (st : Nat) (len : Int) (hlen : -2147483648 ≤ len ∧ len ≤ 2147483647) (T : TG w b o s) (hn : st ≤ s.size) (hsz : s.size ≤ 1048576) (U : Tabs w) (hb : 2 ≤ b) :
    Calls Tryf.prog 50 #[ptr b o, rng st len] w (LocP w b o s len) := by
  have hl := T.lt
  have hbl : b ≠ w.heap.size := by omega
  have S := Lib.hid (line60 (w.alloc (.cells #[.int .i32 st, .int .i32 len] 32)) b o s st (T.of_block (Below.heap_alloc _ _ _ hl)) hn hsz (Go.Proofs.Utf8Tabs_below U ((Below.refl _ _).alloc (Nat.le_refl _) _)) hb)
  have HT := Lib.hid (Tch.of (o := o) ((Touch.refl (fun _ => False) w).alloc (.cells #[.int .i32 st, .int .i32 len] 32)) hl)
  have HX := Lib.hid (heap_alloc_new w (.cells #[.int .i32 st, .int .i32 len] 32))
  have hstz : (st : Int) ≤ 1048576 := by omega
  have c9 : w.cell? ⟨b, o + 9, none⟩ = some (.bool true) := by obtain ⟨_, _, _, _, _, _, t, g⟩ := T; exact t.c9
  clear T U
  go_enter Tryf.func50, Tryf.ntmps50
  go_upto_region 4 with (go_at_call 60; refine S.out.mono ?_; rintro _ W ⟨ln, cl, off, line, ls, le, rfl, tk, g, tt⟩)
  have HX2 := Lib.hid ((tt.t.block w.heap.size (by simp) (by omega)).trans HX.out)
  have x1 : W.cell? ⟨w.heap.size, 1, none⟩ = some (.int .i32 len) := by rw [cell_of_row W _ 1 _ _ _ HX2.out]; rfl
  have d0 := tk.c0
  have d1 := tk.c1
  have d2 := tk.c2
  have TK := Lib.hid tk
  have GG := Lib.hid g
  have TT := Lib.hid (HT.out.trans tt)
  have hs := TK.out.lt
  have hws : Hid (w.heap.size ≤ W.heap.size) := Lib.hid TT.out.t.size
  have hl1 : (ls : Int) ≤ le := by have := (g.2.1 rfl).1; have := (g.2.2 rfl).1; omega
  have hl2 : (le : Int) ≤ s.size := by have := (g.2.2 rfl).2.1; omega
  clear tk tt g c9
  go_region
  all_goals
    go_wp2_with fail
    go_ret
    refine ⟨_, rfl, hws.out, ?_, TG.mk (TK.out.of_block (Below.heap_alloc _ _ _ hs)) GG.out, TT.out.trans (Tch.of (((Touch.refl _ _).alloc _).drew) hs)⟩
    exact ⟨_, _, (cell_of_row (W.alloc _) _ 0 _ _ _ (heap_alloc_new _ _)).trans rfl, (cell_of_row (W.alloc _) _ 1 _ _ _ (heap_alloc_new _ _)).trans rfl, (cell_of_row (W.alloc _) _ 5 _ _ _ (heap_alloc_new _ _)).trans rfl, (cell_of_row (W.alloc _) _ 6 _ _ _ (heap_alloc_new _ _)).trans rfl, (cell_of_row (W.alloc _) _ 7 _ _ _ (heap_alloc_new _ _)).trans rfl⟩
/-- What a message's data is made of. -/
abbrev dat (g : Nat) (txt : ByteArray) : Value := .agg #[.nilIface, ptr g 0, .string txt, .bool false]
def MsgP (w : World) (b o : Nat) (s : ByteArray) (len : Int) (txt : ByteArray) (e : Ending) (w' : World) : Prop := ∃ g, e = .returned (dat g txt) ∧ w.heap.size ≤ g ∧ LocOk w' g len ∧ TG w' b o s ∧ Tch b o w w'
theorem msg33 (w : World) (b o : Nat) (s : ByteArray) (st : Nat) (len : Int) (txt : ByteArray) (hlen : -2147483648 ≤ len ∧ len ≤ 2147483647) (T : TG w b o s) (hn : st ≤ s.size) (hsz : s.size ≤ 1048576) (U : Tabs w) (hb : 2 ≤ b) :
    Calls Tryf.prog 33 #[ptr b o, rng st len, .string txt] w (MsgP w b o s len txt) := by
  have hl := T.lt
  have h0 : Touch (fun _ => False) w ((w.alloc (.cells #[.int .i32 st, .int .i32 len] 32)).alloc (.cells #[.nilIface, .pointer none, str0, .bool false] 175)) := ((Touch.refl (fun _ => False) w).alloc _).alloc _
  have HT := Lib.hid (Tch.of (o := o) h0 hl)
  have S := Lib.hid (loc50 ((w.alloc (.cells #[.int .i32 st, .int .i32 len] 32)).alloc (.cells #[.nilIface, .pointer none, str0, .bool false] 175)) b o s st len hlen (T.of_block (h0.block b hl id)) hn hsz (U.touch h0 id id) hb)
  have hx := heap_alloc_new (w.alloc (.cells #[.int .i32 st, .int .i32 len] 32)) (.cells #[.nilIface, .pointer none, str0, .bool false] 175)
  rw [show (w.alloc (.cells #[.int .i32 st, .int .i32 len] 32)).heap.size = w.heap.size + 1 by simp] at hx
  have HX := Lib.hid hx
  have hsz2 : ((w.alloc (.cells #[.int .i32 st, .int .i32 len] 32)).alloc (.cells #[.nilIface, .pointer none, str0, .bool false] 175)).heap.size = w.heap.size + 2 := by simp
  have HSZ := Lib.hid hsz2
  clear T U hx hsz2 h0
  go_enter Tryf.func33, Tryf.ntmps33
  go_wp2_with (go_at_call 50; refine S.out.mono ?_; rintro _ W ⟨g, rfl, hg, hlen7, tk, tt⟩; have m := (tt.t.block (w.heap.size + 1) (by rw [HSZ.out]; omega) (by omega)).trans HX.out; have q0 : W.cell? ⟨w.heap.size + 1, 0, none⟩ = some .nilIface := (by rw [cell_of_row W _ 0 _ _ _ m]; rfl); have q1 : W.cell? ⟨w.heap.size + 1, 1, none⟩ = some (.pointer none) := (by rw [cell_of_row W _ 1 _ _ _ m]; rfl); have q2 : W.cell? ⟨w.heap.size + 1, 2, none⟩ = some str0 := (by rw [cell_of_row W _ 2 _ _ _ m]; rfl); have q3 : W.cell? ⟨w.heap.size + 1, 3, none⟩ = some (.bool false) := (by rw [cell_of_row W _ 3 _ _ _ m]; rfl); have z0 : W.frozen? ⟨w.heap.size + 1, 0, none⟩ = false := frozen_of_row W _ 0 _ _ m; have z1 : W.frozen? ⟨w.heap.size + 1, 1, none⟩ = false := frozen_of_row W _ 1 _ _ m; have z2 : W.frozen? ⟨w.heap.size + 1, 2, none⟩ = false := frozen_of_row W _ 2 _ _ m; have z3 : W.frozen? ⟨w.heap.size + 1, 3, none⟩ = false := frozen_of_row W _ 3 _ _ m; have TK := Lib.hid tk; have TT := Lib.hid (HT.out.trans tt); have HG := Lib.hid hg; have H7 := Lib.hid hlen7; clear tk tt m hg hlen7)
  have e0 : ((((W.setCell ⟨w.heap.size + 1, 0, none⟩ .nilIface).setCell ⟨w.heap.size + 1, 1, none⟩ (ptr g 0)).setCell ⟨w.heap.size + 1, 2, none⟩ (.string txt)).setCell ⟨w.heap.size + 1, 3, none⟩ (.bool false)).cell? ⟨w.heap.size + 1, 0, none⟩ = some .nilIface := by go_simp
  have e1 : ((((W.setCell ⟨w.heap.size + 1, 0, none⟩ .nilIface).setCell ⟨w.heap.size + 1, 1, none⟩ (ptr g 0)).setCell ⟨w.heap.size + 1, 2, none⟩ (.string txt)).setCell ⟨w.heap.size + 1, 3, none⟩ (.bool false)).cell? ⟨w.heap.size + 1, 1, none⟩ = some (ptr g 0) := by go_simp
  have e2 : ((((W.setCell ⟨w.heap.size + 1, 0, none⟩ .nilIface).setCell ⟨w.heap.size + 1, 1, none⟩ (ptr g 0)).setCell ⟨w.heap.size + 1, 2, none⟩ (.string txt)).setCell ⟨w.heap.size + 1, 3, none⟩ (.bool false)).cell? ⟨w.heap.size + 1, 2, none⟩ = some (.string txt) := by go_simp
  have e3 : ((((W.setCell ⟨w.heap.size + 1, 0, none⟩ .nilIface).setCell ⟨w.heap.size + 1, 1, none⟩ (ptr g 0)).setCell ⟨w.heap.size + 1, 2, none⟩ (.string txt)).setCell ⟨w.heap.size + 1, 3, none⟩ (.bool false)).cell? ⟨w.heap.size + 1, 3, none⟩ = some (.bool false) := by go_simp
  have hne : b ≠ w.heap.size + 1 := by omega
  have hx : ¬ w.heap.size + 1 < w.heap.size := by omega
  have hg2 : w.heap.size + 2 ≤ g := by have := HG.out; rw [HSZ.out] at this; exact this
  have far : ∀ k, k ≠ w.heap.size + 1 → ((((W.setCell ⟨w.heap.size + 1, 0, none⟩ .nilIface).setCell ⟨w.heap.size + 1, 1, none⟩ (ptr g 0)).setCell ⟨w.heap.size + 1, 2, none⟩ (.string txt)).setCell ⟨w.heap.size + 1, 3, none⟩ (.bool false)).heap[k]? = W.heap[k]? := fun k hk => (Below.heap_setCell _ _ _ _ hk).trans ((Below.heap_setCell _ _ _ _ hk).trans ((Below.heap_setCell _ _ _ _ hk).trans (Below.heap_setCell _ _ _ _ hk)))
  refine bodyPost_ret (v := dat g txt) (by simp [results, Tryf.results33, go_sem, e0, e1, e2, e3]) rfl ⟨g, rfl, by omega, H7.out.of_block (far g (by omega)), TK.out.of_block (far b hne), ?_⟩
  refine ⟨?_, fun q h1 => (World.cell?_of_block (a := ⟨b, q, none⟩) (far b hne)).trans (TT.out.c q h1), fun q => (World.frozen?_of_block (a := ⟨b, q, none⟩) (far b hne)).trans (TT.out.z q)⟩
  exact (((TT.out.t.setCell ⟨w.heap.size + 1, 0, none⟩ (fun h => absurd h hx) _).setCell ⟨w.heap.size + 1, 1, none⟩ (fun h => absurd h hx) _).setCell ⟨w.heap.size + 1, 2, none⟩ (fun h => absurd h hx) _).setCell ⟨w.heap.size + 1, 3, none⟩ (fun h => absurd h hx) _
end Go.Proofs.YtfnicbfdfceagaaFmt.lg
