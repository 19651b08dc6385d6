/-
  Chains of conditionals: checked.
-/
import Derived.Test.YthhlioepgfjknaaTb
namespace Go.Proofs.Ythhlioepgfjknaa.ch
open Go.ChangeShapes Go.WideShapes Go.ChangeAt Go.RowKit Go.Deep
set_option linter.unusedVariables false
set_option linter.unusedSimpArgs false
set_option maxRecDepth 100000
set_option maxHeartbeats 4000000

theorem Row.of_heap {w w' : World} {a : Option Addr} {n : Nat} {V : Nat → Value} (h : Row w a n V) (he : w'.heap = w.heap) : Row w' a n V := by
  intro hn
  obtain ⟨b, off, rfl, hc⟩ := h hn
  exact ⟨b, off, rfl, fun i hi => (World.cell?_of_block (a := ⟨b, off + i, none⟩) (by rw [he])).trans (hc i hi)⟩
def TrueP (w : World) (e : Ending) (w' : World) : Prop := e = .returned (.bool true) ∧ Below w.heap.size w w'
theorem check11_zero (w : World) (a : Option Addr) (cs : Nat) (la : Option Addr) (m cl : Nat) (z : Nat → Int) (hl : Row w la m (fun i => .int .i32 (z i))) (G : Option Addr) (T b : Nat) (d : Int) (hd : 0 ≤ d ∧ d ≤ 2097152)
    (hL : -536870912 ≤ lca m z 0 ∧ lca m z 0 ≤ 536870912) : Calls Try.prog 11 #[ex T b (lca m z 0 + d), .slice a 0 cs, .slice la m cl, .slice G 0 0, .int .i32 d] w (TrueP w) := by
  have HL := Lib.hid hl
  have W30 := Lib.hid (fun (w' : World) (hb : Below w.heap.size w w') => loc30 w' la m cl z 0 (by omega) (HL.out.below hb))
  have f1 : IntKind.i32.wrap (lca m z 0 + d) = lca m z 0 + d := Go.IntWalk.i32_in _ (by omega)
  clear hl
  go_enter Try.func11, Try.ntmps11
  go_upto_region 3 with (fail)
  have hB : Below w.heap.size w (w.alloc (Obj.cells #[Value.iface T (Value.pointer (some { block := b, off := 0 })), Value.int IntKind.i32 (lca m z 0 + d)] 30)) := (Below.refl _ _).alloc (Nat.le_refl _) _
  have k1 : (w.alloc (Obj.cells #[Value.iface T (Value.pointer (some { block := b, off := 0 })), Value.int IntKind.i32 (lca m z 0 + d)] 30)).cell? ⟨w.heap.size, 1, none⟩ = some (.int .i32 (lca m z 0 + d)) := by simp
  generalize w.alloc (Obj.cells #[Value.iface T (Value.pointer (some { block := b, off := 0 })), Value.int IntKind.i32 (lca m z 0 + d)] 30) = W1 at *
  have HB := Lib.hid hB
  have V30 := Lib.hid (fun (w' : World) (h : w'.heap = W1.heap) => loc30 w' la m cl z 0 (by omega) (Row.of_heap (HL.out.below HB.out) h))
  clear hB
  go_quiet ((go_at_call 30; exact Calls.quiet_of_same ((V30.out _ (by simp)).mono fun _ _ h => ⟨h.1, h.2.symm⟩)))
  have HB3 : Hid (Below w.heap.size w (W1.drewN nq)) := Lib.hid ⟨HB.out.os, HB.out.tape, HB.out.output, HB.out.size, HB.out.block⟩
  go_wp2_with fail
  go_ret
  exact ⟨rfl, HB3.out⟩
theorem check11 (w : World) (a : Option Addr) (cs : Nat) (s : Nat → Bool) (la : Option Addr) (m cl : Nat) (z : Nat → Int) (c : Bl) (hn : c.n ≤ 4096) (h0 : 0 < c.n) (hr : Row w a c.n (fun i => .bool (s i))) (hl : Row w la m (fun i => .int .i32 (z i))) (G : Nat) (d : Int) (hd : 0 ≤ d ∧ d ≤ 2097152)
    (hL : ∀ k, k ≤ 16384 → -536870912 ≤ lca m z k ∧ lca m z k ≤ 536870912) (hN : Nds c s (lca m z) d 0 w) (hG : ∀ p, p < c.n → w.cell? ⟨G, p, none⟩ = some (.pointer (some ⟨c.e p, 0, none⟩))) :
    Calls Try.prog 11 #[ex 78 (c.e 0) (lca m z 2), .slice a c.n cs, .slice la m cl, .slice (some ⟨G, 0, none⟩) c.n c.n, .int .i32 d] w (TrueP w) := by
  have HL := Lib.hid hl
  have HR := Lib.hid hr
  have HN := Lib.hid hN
  have HG := Lib.hid hG
  have HLL := Lib.hid hL
  have W30 := Lib.hid (fun (W1 : World) (hb : Below w.heap.size w W1) (w' : World) (h : w'.heap = W1.heap) (x : Int) (k : Nat) (hx : x = (k : Int)) (hk : k ≤ 16384) => show Calls Try.prog 30 #[.slice la m cl, .int .i64 x] w' fun e w'' => e = .returned (.int .i32 (lca m z k)) ∧ w' = w'' by rw [hx]; exact loc30 w' la m cl z k hk (Row.of_heap (HL.out.below hb) h))
  clear hl hr hN hG hL
  have e0 : ((c.n : Int) == 0) = false := by simp; omega
  go_enter Try.func11, Try.ntmps11
  go_upto_region 4 with (fail)
  have hB : Below w.heap.size w (w.alloc (Obj.cells #[Value.iface 78 (Value.pointer (some { block := c.e 0, off := 0 })), Value.int IntKind.i32 (lca m z 2)] 30)) := (Below.refl _ _).alloc (Nat.le_refl _) _
  have k1 : (w.alloc (Obj.cells #[Value.iface 78 (Value.pointer (some { block := c.e 0, off := 0 })), Value.int IntKind.i32 (lca m z 2)] 30)).cell? ⟨w.heap.size, 1, none⟩ = some (.int .i32 (lca m z 2)) := by simp
  generalize w.alloc (Obj.cells #[Value.iface 78 (Value.pointer (some { block := c.e 0, off := 0 })), Value.int IntKind.i32 (lca m z 2)] 30) = W1 at *
  have HB := Lib.hid hB
  clear hB
  go_quiet ((go_at_call 30; exact Calls.quiet_of_same ((W30.out W1 HB.out _ (by simp) _ 2 (by omega) (by omega)).mono fun _ _ h => ⟨h.1, h.2.symm⟩)))
  have HB2 : Hid (Below w.heap.size w (W1.drewN nq)) := Lib.hid ⟨HB.out.os, HB.out.tape, HB.out.output, HB.out.size, HB.out.block⟩
  clear k1 HB
  generalize W1.drewN nq = W2 at *
  go_wp2_with fail
  go_loopw [12] (fun i wr => ∃ k : Nat, k ≤ c.n ∧ i = .int .i64 k ∧ Below w.heap.size w wr) (fun i _ => c.n - (intOf i).toNat)
  case atStart => exact ⟨0, by omega, rfl, HB2.out⟩
  case round =>
    obtain ⟨k, hk, rfl, hB⟩ := hrel
    rename World => wr
    have HB := Lib.hid hB
    clear hB HB2
    by_cases hlt : k < c.n
    rotate_left
    · obtain rfl : k = c.n := by omega
      go_wp2_with fail
      go_ret
      exact ⟨rfl, HB.out⟩
    have n1 : ∀ d, s k = true → nde c s (lca m z) d k = #[.iface 79 (.pointer (some ⟨c.t k, 0, none⟩)), .int .i32 (lca m z (3 * k)), .iface (c.T (k + 1)) (.pointer (some ⟨c.b (k + 1), 0, none⟩)), .int .i32 (lc c (lca m z) d (k + 1)), .iface 42 (.pointer (some ⟨c.o k, 0, none⟩)), .int .i32 (lca m z (3 * k + 1) + d)] := fun d h => if_pos h
    have n2 : ∀ d, ¬ s k = true → nde c s (lca m z) d k = #[.iface 79 (.pointer (some ⟨c.t k, 0, none⟩)), .int .i32 (lca m z (3 * k)), .iface 42 (.pointer (some ⟨c.o k, 0, none⟩)), .int .i32 (lca m z (3 * k + 1) + d), .iface (c.T (k + 1)) (.pointer (some ⟨c.b (k + 1), 0, none⟩)), .int .i32 (lc c (lca m z) d (k + 1))] := fun d h => if_neg h
    have he := (HB.out.block _ (lt_of_block (HN.out k (Nat.zero_le _) hlt))).trans (HN.out k (Nat.zero_le _) hlt)
    have hgc := HG.out k hlt
    have g1 := (HB.out.cell (p := ⟨G, k, none⟩) (block_lt_of_cell hgc)).trans hgc
    obtain ⟨bo, off, rfl, hcs⟩ := HR.out h0
    have c1' := hcs k hlt
    have d1 := (HB.out.cell (p := ⟨bo, off + k, none⟩) (block_lt_of_cell c1')).trans c1'
    have hsz : c.e k < wr.heap.size := lt_of_block he
    have hbo : bo < wr.heap.size := block_lt_of_cell d1
    clear c1' hcs hgc
    generalize hT : c.T (k + 1) = T at *
    generalize hb : c.b (k + 1) = b at *
    generalize hln : lc c (lca m z) d (k + 1) = ln at *
    have f1 : IntKind.i64.wrap ((3 : Int) * (k : Int)) = (3 : Int) * (k : Int) := Go.IntWalk.i64_in _ (by omega)
    have f2 : IntKind.i64.wrap ((3 : Int) * (k : Int) + 1) = (3 : Int) * (k : Int) + 1 := Go.IntWalk.i64_in _ (by omega)
    have f3 : IntKind.i64.wrap ((3 : Int) * (c.n : Int)) = (3 : Int) * (c.n : Int) := Go.IntWalk.i64_in _ (by omega)
    have f4 : IntKind.i64.wrap ((c.n : Int) - 1) = (c.n : Int) - 1 := Go.IntWalk.i64_in _ (by omega)
    have f5 : IntKind.i64.wrap ((k : Int) + 1) = (k : Int) + 1 := Go.IntWalk.i64_in _ (by omega)
    have f6 : IntKind.i64.wrap ((3 : Int) * ((k : Int) + 1)) = (3 : Int) * ((k : Int) + 1) := Go.IntWalk.i64_in _ (by omega)
    have f7 : IntKind.i64.wrap ((3 : Int) * ((k : Int) + 1) + 2) = (3 : Int) * ((k : Int) + 1) + 2 := Go.IntWalk.i64_in _ (by omega)
    have f8 : IntKind.i32.wrap (lca m z (3 * k + 1) + d) = lca m z (3 * k + 1) + d := Go.IntWalk.i32_in _ (by have := HLL.out (3 * k + 1) (by omega); omega)
    have f9 : IntKind.i32.wrap (lca m z (3 * c.n) + d) = lca m z (3 * c.n) + d := Go.IntWalk.i32_in _ (by have := HLL.out (3 * c.n) (by omega); omega)
    cases hs : s k
    · skip
      have hE := he
      rw [n2 _ (by rw [hs]; exact Bool.noConfusion), hln] at hE
      simp only [hs] at d1
      have k1 : wr.cell? ⟨c.e k, 1, none⟩ = some (.int .i32 (lca m z (3 * k))) := (cell_of_row _ _ 1 _ _ _ hE).trans rfl
      have k2 : wr.cell? ⟨c.e k, 2, none⟩ = some (.iface 42 (.pointer (some ⟨c.o k, 0, none⟩))) := (cell_of_row _ _ 2 _ _ _ hE).trans rfl
      have k3 : wr.cell? ⟨c.e k, 3, none⟩ = some (.int .i32 (lca m z (3 * k + 1) + d)) := (cell_of_row _ _ 3 _ _ _ hE).trans rfl
      have k4 : wr.cell? ⟨c.e k, 4, none⟩ = some (.iface T (.pointer (some ⟨b, 0, none⟩))) := (cell_of_row _ _ 4 _ _ _ hE).trans rfl
      have k5 : wr.cell? ⟨c.e k, 5, none⟩ = some (.int .i32 ln) := (cell_of_row _ _ 5 _ _ _ hE).trans rfl
      clear he hs n1 n2
      go_upto_region 10 with (fail)
      go_quiet ((go_at_call 30; exact Calls.quiet_of_same ((W30.out wr HB.out _ (by simp) _ (3 * k) (by omega) (by omega)).mono fun _ _ h => ⟨h.1, h.2.symm⟩)))
      have HB2 : Hid (Below w.heap.size w (wr.drewN nq)) := Lib.hid ⟨HB.out.os, HB.out.tape, HB.out.output, HB.out.size, HB.out.block⟩
      replace hE : (wr.drewN nq).heap[c.e k]? = _ := hE
      replace d1 : (wr.drewN nq).cell? ⟨bo, off + k, none⟩ = _ := d1
      replace hsz : c.e k < (wr.drewN nq).heap.size := hsz
      replace hbo : bo < (wr.drewN nq).heap.size := hbo
      clear k1 k2 k3 k4 k5 g1 HB
      generalize wr.drewN nq = W3 at *
      have k1 : W3.cell? ⟨c.e k, 1, none⟩ = some (.int .i32 (lca m z (3 * k))) := (cell_of_row _ _ 1 _ _ _ hE).trans rfl
      have k2 : W3.cell? ⟨c.e k, 2, none⟩ = some (.iface 42 (.pointer (some ⟨c.o k, 0, none⟩))) := (cell_of_row _ _ 2 _ _ _ hE).trans rfl
      have k3 : W3.cell? ⟨c.e k, 3, none⟩ = some (.int .i32 (lca m z (3 * k + 1) + d)) := (cell_of_row _ _ 3 _ _ _ hE).trans rfl
      have k4 : W3.cell? ⟨c.e k, 4, none⟩ = some (.iface T (.pointer (some ⟨b, 0, none⟩))) := (cell_of_row _ _ 4 _ _ _ hE).trans rfl
      have k5 : W3.cell? ⟨c.e k, 5, none⟩ = some (.int .i32 ln) := (cell_of_row _ _ 5 _ _ _ hE).trans rfl
      go_upto_region 17 with (fail)
      have hB4 : Below w.heap.size w ((W3.alloc (Obj.cells #[Value.iface T (Value.pointer (some { block := b, off := 0 })), Value.int IntKind.i32 ln] 30)).alloc (Obj.cells #[Value.iface 42 (Value.pointer (some { block := c.o k, off := 0 })), Value.int IntKind.i32 (lca m z (3 * k + 1) + d)] 30)) := (HB2.out.alloc (by have := HB2.out.size; omega) _).alloc (by have := HB2.out.size; simp; omega) _
      have x1 : ((W3.alloc (Obj.cells #[Value.iface T (Value.pointer (some { block := b, off := 0 })), Value.int IntKind.i32 ln] 30)).alloc (Obj.cells #[Value.iface 42 (Value.pointer (some { block := c.o k, off := 0 })), Value.int IntKind.i32 (lca m z (3 * k + 1) + d)] 30)).cell? ⟨W3.heap.size, 1, none⟩ = some (.int .i32 ln) := by simp
      have o1 : ((W3.alloc (Obj.cells #[Value.iface T (Value.pointer (some { block := b, off := 0 })), Value.int IntKind.i32 ln] 30)).alloc (Obj.cells #[Value.iface 42 (Value.pointer (some { block := c.o k, off := 0 })), Value.int IntKind.i32 (lca m z (3 * k + 1) + d)] 30)).cell? ⟨W3.heap.size + 1, 1, none⟩ = some (.int .i32 (lca m z (3 * k + 1) + d)) := by simp
      generalize (W3.alloc (Obj.cells #[Value.iface T (Value.pointer (some { block := b, off := 0 })), Value.int IntKind.i32 ln] 30)).alloc (Obj.cells #[Value.iface 42 (Value.pointer (some { block := c.o k, off := 0 })), Value.int IntKind.i32 (lca m z (3 * k + 1) + d)] 30) = W4 at *
      have HB4 := Lib.hid hB4
      clear hB4 k1 k2 k3 k4 k5 hE d1 HB2
      go_quiet ((go_at_call 30; exact Calls.quiet_of_same ((W30.out W4 HB4.out _ (by simp) _ (3 * k + 1) (by omega) (by omega)).mono fun _ _ h => ⟨h.1, h.2.symm⟩)))
      have HB5 : Hid (Below w.heap.size w (W4.drewN nq)) := Lib.hid ⟨HB4.out.os, HB4.out.tape, HB4.out.output, HB4.out.size, HB4.out.block⟩
      replace x1 : (W4.drewN nq).cell? ⟨W3.heap.size, 1, none⟩ = _ := x1
      clear o1 HB4
      generalize W4.drewN nq = W5 at *
      by_cases hk1 : k + 1 < c.n
      · have hlv : ln = lca m z (3 * (k + 1) + 2) := by rw [← hln]; exact if_pos hk1
        subst hlv
        have e1 : decide ((k : Int) < (c.n : Int) - 1) = true := by simp; omega
        clear hln hT hb hk1
        go_wp2_with (first | (go_at_call 30; refine (W30.out W5 HB5.out _ rfl _ (3 * c.n) (by omega) (by omega)).mono ?_; rintro e w' ⟨rfl, rfl⟩) | (go_at_call 30; refine (W30.out W5 HB5.out _ rfl _ (3 * (k + 1) + 2) (by omega) (by omega)).mono ?_; rintro e w' ⟨rfl, rfl⟩))
        go_roundw
        case rel => exact ⟨k + 1, by omega, by go_num, HB5.out⟩
        case measure => simp [intOf]; omega
      · have hlv : ln = lca m z (3 * c.n) + d := by rw [← hln]; exact if_neg hk1
        subst hlv
        have e1 : decide ((k : Int) < (c.n : Int) - 1) = false := by simp; omega
        clear hln hT hb hk1
        go_wp2_with (go_at_call 30; refine (W30.out W5 HB5.out _ rfl _ (3 * c.n) (by omega) (by omega)).mono ?_; rintro e w' ⟨rfl, rfl⟩)
        go_roundw
        case rel => exact ⟨k + 1, by omega, by go_num, HB5.out⟩
        case measure => simp [intOf]; omega
    · skip
      have hE := he
      rw [n1 _ hs, hln] at hE
      simp only [hs] at d1
      have k1 : wr.cell? ⟨c.e k, 1, none⟩ = some (.int .i32 (lca m z (3 * k))) := (cell_of_row _ _ 1 _ _ _ hE).trans rfl
      have k2 : wr.cell? ⟨c.e k, 2, none⟩ = some (.iface T (.pointer (some ⟨b, 0, none⟩))) := (cell_of_row _ _ 2 _ _ _ hE).trans rfl
      have k3 : wr.cell? ⟨c.e k, 3, none⟩ = some (.int .i32 ln) := (cell_of_row _ _ 3 _ _ _ hE).trans rfl
      have k4 : wr.cell? ⟨c.e k, 4, none⟩ = some (.iface 42 (.pointer (some ⟨c.o k, 0, none⟩))) := (cell_of_row _ _ 4 _ _ _ hE).trans rfl
      have k5 : wr.cell? ⟨c.e k, 5, none⟩ = some (.int .i32 (lca m z (3 * k + 1) + d)) := (cell_of_row _ _ 5 _ _ _ hE).trans rfl
      clear he hs n1 n2
      go_upto_region 10 with (fail)
      go_quiet ((go_at_call 30; exact Calls.quiet_of_same ((W30.out wr HB.out _ (by simp) _ (3 * k) (by omega) (by omega)).mono fun _ _ h => ⟨h.1, h.2.symm⟩)))
      have HB2 : Hid (Below w.heap.size w (wr.drewN nq)) := Lib.hid ⟨HB.out.os, HB.out.tape, HB.out.output, HB.out.size, HB.out.block⟩
      replace hE : (wr.drewN nq).heap[c.e k]? = _ := hE
      replace d1 : (wr.drewN nq).cell? ⟨bo, off + k, none⟩ = _ := d1
      replace hsz : c.e k < (wr.drewN nq).heap.size := hsz
      replace hbo : bo < (wr.drewN nq).heap.size := hbo
      clear k1 k2 k3 k4 k5 g1 HB
      generalize wr.drewN nq = W3 at *
      have k1 : W3.cell? ⟨c.e k, 1, none⟩ = some (.int .i32 (lca m z (3 * k))) := (cell_of_row _ _ 1 _ _ _ hE).trans rfl
      have k2 : W3.cell? ⟨c.e k, 2, none⟩ = some (.iface T (.pointer (some ⟨b, 0, none⟩))) := (cell_of_row _ _ 2 _ _ _ hE).trans rfl
      have k3 : W3.cell? ⟨c.e k, 3, none⟩ = some (.int .i32 ln) := (cell_of_row _ _ 3 _ _ _ hE).trans rfl
      have k4 : W3.cell? ⟨c.e k, 4, none⟩ = some (.iface 42 (.pointer (some ⟨c.o k, 0, none⟩))) := (cell_of_row _ _ 4 _ _ _ hE).trans rfl
      have k5 : W3.cell? ⟨c.e k, 5, none⟩ = some (.int .i32 (lca m z (3 * k + 1) + d)) := (cell_of_row _ _ 5 _ _ _ hE).trans rfl
      go_upto_region 17 with (fail)
      have hB4 : Below w.heap.size w ((W3.alloc (Obj.cells #[Value.iface T (Value.pointer (some { block := b, off := 0 })), Value.int IntKind.i32 ln] 30)).alloc (Obj.cells #[Value.iface 42 (Value.pointer (some { block := c.o k, off := 0 })), Value.int IntKind.i32 (lca m z (3 * k + 1) + d)] 30)) := (HB2.out.alloc (by have := HB2.out.size; omega) _).alloc (by have := HB2.out.size; simp; omega) _
      have x1 : ((W3.alloc (Obj.cells #[Value.iface T (Value.pointer (some { block := b, off := 0 })), Value.int IntKind.i32 ln] 30)).alloc (Obj.cells #[Value.iface 42 (Value.pointer (some { block := c.o k, off := 0 })), Value.int IntKind.i32 (lca m z (3 * k + 1) + d)] 30)).cell? ⟨W3.heap.size, 1, none⟩ = some (.int .i32 ln) := by simp
      have o1 : ((W3.alloc (Obj.cells #[Value.iface T (Value.pointer (some { block := b, off := 0 })), Value.int IntKind.i32 ln] 30)).alloc (Obj.cells #[Value.iface 42 (Value.pointer (some { block := c.o k, off := 0 })), Value.int IntKind.i32 (lca m z (3 * k + 1) + d)] 30)).cell? ⟨W3.heap.size + 1, 1, none⟩ = some (.int .i32 (lca m z (3 * k + 1) + d)) := by simp
      generalize (W3.alloc (Obj.cells #[Value.iface T (Value.pointer (some { block := b, off := 0 })), Value.int IntKind.i32 ln] 30)).alloc (Obj.cells #[Value.iface 42 (Value.pointer (some { block := c.o k, off := 0 })), Value.int IntKind.i32 (lca m z (3 * k + 1) + d)] 30) = W4 at *
      have HB4 := Lib.hid hB4
      clear hB4 k1 k2 k3 k4 k5 hE d1 HB2
      go_quiet ((go_at_call 30; exact Calls.quiet_of_same ((W30.out W4 HB4.out _ (by simp) _ (3 * k + 1) (by omega) (by omega)).mono fun _ _ h => ⟨h.1, h.2.symm⟩)))
      have HB5 : Hid (Below w.heap.size w (W4.drewN nq)) := Lib.hid ⟨HB4.out.os, HB4.out.tape, HB4.out.output, HB4.out.size, HB4.out.block⟩
      replace x1 : (W4.drewN nq).cell? ⟨W3.heap.size, 1, none⟩ = _ := x1
      clear o1 HB4
      generalize W4.drewN nq = W5 at *
      by_cases hk1 : k + 1 < c.n
      · have hlv : ln = lca m z (3 * (k + 1) + 2) := by rw [← hln]; exact if_pos hk1
        subst hlv
        have e1 : decide ((k : Int) < (c.n : Int) - 1) = true := by simp; omega
        clear hln hT hb hk1
        go_wp2_with (first | (go_at_call 30; refine (W30.out W5 HB5.out _ rfl _ (3 * c.n) (by omega) (by omega)).mono ?_; rintro e w' ⟨rfl, rfl⟩) | (go_at_call 30; refine (W30.out W5 HB5.out _ rfl _ (3 * (k + 1) + 2) (by omega) (by omega)).mono ?_; rintro e w' ⟨rfl, rfl⟩))
        go_roundw
        case rel => exact ⟨k + 1, by omega, by go_num, HB5.out⟩
        case measure => simp [intOf]; omega
      · have hlv : ln = lca m z (3 * c.n) + d := by rw [← hln]; exact if_neg hk1
        subst hlv
        have e1 : decide ((k : Int) < (c.n : Int) - 1) = false := by simp; omega
        clear hln hT hb hk1
        go_wp2_with (go_at_call 30; refine (W30.out W5 HB5.out _ rfl _ (3 * c.n) (by omega) (by omega)).mono ?_; rintro e w' ⟨rfl, rfl⟩)
        go_roundw
        case rel => exact ⟨k + 1, by omega, by go_num, HB5.out⟩
        case measure => simp [intOf]; omega
end Go.Proofs.Ythhlioepgfjknaa.ch
