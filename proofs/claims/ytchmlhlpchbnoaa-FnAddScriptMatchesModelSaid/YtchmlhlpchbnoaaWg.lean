/-
  Contracts of the wait group's functions (make, Add, Done, Wait, the two readers), over the seat of folder 17.
-/
import Derived.Test.YtchmlhlpchbnoaaRows
import Derived.WalkKit
import Derived.ProofKit
import Derived.OpenShut
import Derived.ShutString
import Derived.Lib.Hide
import Derived.OneCell
import Derived.Below
import Derived.WalkLawsBesides
import Derived.Conc.LoneCalls
import Derived.Laws.Rows
import Derived.Laws.LoneSync
namespace Go.Proofs.Ytchmlhlpchbnoaa.wg
open Go.ChangeShapes Go.WideShapes Go.ChangeAt Go.RowKit Go.Conc
set_option linter.unusedVariables false

theorem mk1 (w : World) : (Instr.makeChan 31 (.int .i64 1)).run Try.prog w = .ok (.chan (some w.heap.size)) (w.alloc (.chan 1 #[] false 0 0 false)) := by
  have h : (Try.prog.info? 36).map (·.bytes) = some 0 := by kernel_rfl
  obtain ⟨i, hi, hb⟩ := Option.map_eq_some_iff.1 h
  simpa using run_makeChan (P := Try.prog) (w := w) Try.underlying31 hi .i64 1 (by omega) (by rw [hb]; omega)

theorem make_any (w : World) : Calls Try.prog 7 #[] w fun e w' => e = .returned (.pointer (some ⟨w.heap.size + 1, 0, none⟩)) ∧
    (w.alloc (.chan 1 #[] false 0 0 false)).alloc (.cells #[.int .i32 0, .chan (some w.heap.size)] 33) = w' := by
  have hmc := mk1
  go_enter Try.func7, Try.ntmps7
  go_wp2
  go_ret
  exact ⟨rfl, rfl⟩

theorem counter_any (w : World) (b : Nat) (n : Int) (h0 : w.cell? ⟨b, 0, none⟩ = some (.int .i32 n)) :
    Calls Try.prog 9 #[.pointer (some ⟨b, 0, none⟩)] w fun e w' => e = .returned (.int .i32 n) ∧ w = w' := by
  go_enter Try.func9, Try.ntmps9
  go_wp2
  go_ret
  exact ⟨rfl, rfl⟩

theorem lenchan (w : World) (c : Nat) (buf : Array Value) (s r : Nat) (hc : w.heap[c]? = some (.chan 1 buf false s r false)) :
    (Builtin.len_ #[31] 3 #[.chan (some c)]).run Try.prog w = .ok (.int .i64 buf.size) w := by
  simp [Builtin.len_, run_underlying Try.underlying31, run_getObj_chan _ _ hc, go_sem]

theorem pending_any (w : World) (b c : Nat) (buf : Array Value) (s r : Nat) (h1 : w.cell? ⟨b, 1, none⟩ = some (.chan (some c))) (hc : w.heap[c]? = some (.chan 1 buf false s r false)) :
    Calls Try.prog 10 #[.pointer (some ⟨b, 0, none⟩)] w fun e w' => e = .returned (.int .i64 buf.size) ∧ w = w' := by
  have hl := lenchan w c buf s r hc
  go_enter Try.func10, Try.ntmps10
  go_wp2
  go_ret
  exact ⟨rfl, rfl⟩

theorem add_pos (w : World) (b : Nat) (n d : Int) (h0 : w.cell? ⟨b, 0, none⟩ = some (.int .i32 n)) (hz : w.frozen? ⟨b, 0, none⟩ = false)
    (hlo : 0 < n + d) (hhi : n + d ≤ 2147483647) :
    Calls Try.prog 8 #[.pointer (some ⟨b, 0, none⟩), .int .i32 d] w fun e w' => e = .returned (.tuple #[]) ∧ w.setCell ⟨b, 0, none⟩ (.int .i32 (n + d)) = w' := by
  have hadd := run_call_add (P := Try.prog) Try.func15 (by kernel_rfl) (by kernel_rfl) (by kernel_rfl) .i32 (by kernel_rfl) (y := d) (s := n + d) h0 hz (by simp [go_sem]; exact IntWalk.i32_in (n + d) (by omega))
  have e0 : ((n + d) == 0) = false := by simp; omega
  go_enter Try.func8, Try.ntmps8
  go_wp2
  go_end0
  exact ⟨rfl, rfl⟩

set_option maxRecDepth 100000 in
theorem wait_any (w : World) (b c : Nat) (v : Value) (s r : Nat) (h1 : w.cell? ⟨b, 1, none⟩ = some (.chan (some c))) (hc : w.heap[c]? = some (.chan 1 #[v] false s r false)) :
    Calls Try.prog 12 #[.pointer (some ⟨b, 0, none⟩)] w fun e w' => e = .returned (.tuple #[]) ∧ w.setChan c 1 #[] false s (r + 1) false = w' := by
  refine calls_of_loneTo fun cs => ?_
  have e : Frame.enter Try.prog 12 #[.pointer (some ⟨b, 0, none⟩)] .normal = (base 12).at ⟨#[.pointer (some ⟨b, 0, none⟩), undef, undef, undef, undef, undef, undef], []⟩ [.code (Try.f12.body.getD .skip)] := by
    simp [Frame.enter, Frame.at, Try.func12, base, Try.f12]
  rw [e]
  refine LoneTo.goes (n := 5) ?_
  simp only [Try.f12, Option.getD_some]
  s_reg
  s_op
  s_op
  s_op
  s_op
  s_stop
  refine LoneTo.step (step_lone_recv_buf false (c := c) (z := .agg #[]) (stepG_comm (cases := #[rcase c (.agg #[])]) (blocking := true) (shape := .recv false) (w' := w) rfl rfl (by decide) (by simp [go_sem, rcase])) hc (by simp)) ?_
  rw [Frame.finish_at]
  simp only [got]
  walk_nrm
  refine LoneTo.goes (n := 2) ?_
  s_c stepG_region_end
  s_c stepG_end
  s_stop
  refine LoneTo.done ⟨.returned (.tuple #[]), _, rfl, ⟨rfl, rfl⟩, rfl, rfl, rfl, rfl, _, Try.func12, by simp [results, Try.f12, Frame.at]⟩
set_option maxRecDepth 100000 in
theorem add_zero (w : World) (b c : Nat) (n d : Int) (s r : Nat) (h0 : w.cell? ⟨b, 0, none⟩ = some (.int .i32 n)) (hz : w.frozen? ⟨b, 0, none⟩ = false)
    (h1 : w.cell? ⟨b, 1, none⟩ = some (.chan (some c))) (hc : w.heap[c]? = some (.chan 1 #[] false s r false)) (hbc : b ≠ c) (hnd : n + d = 0) :
    Calls Try.prog 8 #[.pointer (some ⟨b, 0, none⟩), .int .i32 d] w fun e w' => e = .returned (.tuple #[]) ∧
      (w.setCell ⟨b, 0, none⟩ (.int .i32 0)).setChan c 1 #[.agg #[]] false (s + 1) r false = w' := by
  have hadd := run_call_add (P := Try.prog) Try.func15 (by kernel_rfl) (by kernel_rfl) (by kernel_rfl) .i32 (by kernel_rfl) (y := d) (s := 0) h0 hz (by simp [go_sem, hnd]; exact IntWalk.i32_in 0 (by omega))
  have h2 : (w.setCell ⟨b, 0, none⟩ (.int .i32 0)).cell? ⟨b, 1, none⟩ = some (.chan (some c)) := by go_simp
  have hc2 : (w.setCell ⟨b, 0, none⟩ (.int .i32 0)).heap[c]? = some (.chan 1 #[] false s r false) := by rw [Below.heap_setCell _ _ _ _ (by exact fun h => hbc h.symm)]; exact hc
  clear hnd
  refine calls_of_loneTo fun cs => ?_
  have e : Frame.enter Try.prog 8 #[.pointer (some ⟨b, 0, none⟩), .int .i32 d] .normal = (base 8).at ⟨#[.pointer (some ⟨b, 0, none⟩), .int .i32 d, undef, undef, undef, undef, undef, undef, undef, undef, undef, undef, undef, undef, undef, undef, undef, undef, undef, undef], []⟩ [.code (Try.f8.body.getD .skip)] := by
    simp [Frame.enter, Frame.at, Try.func8, base, Try.f8]
  rw [e]
  refine LoneTo.goes (n := 30) ?_
  simp only [Try.f8, Option.getD_some]
  s_c stepG_seq
  s_reg
  s_op
  s_op
  s_op
  s_op
  s_op
  s_op
  s_c stepG_region_end
  s_c stepG_seq
  s_reg
  s_op
  s_op
  s_c stepG_region_end
  s_cond true
  s_reg
  s_op
  s_op
  s_op
  s_op
  s_op
  s_stop
  refine LoneTo.step (step_lone_send_room (c := c) (cap := 1) (buf := #[]) (s := s) (r := r) (tm := false) (stepG_comm (cases := #[scase c (.agg #[]) (.tuple #[])]) (blocking := true) (shape := .send) (w' := (w.setCell ⟨b, 0, none⟩ (.int .i32 0))) rfl rfl (by decide) (by simp [execOp, scase, Act.eval])) hc2 (by simp)) ?_
  rw [Frame.finish_at]
  walk_nrm
  refine LoneTo.goes (n := 2) ?_
  s_c stepG_region_end
  s_c stepG_end
  s_stop
  refine LoneTo.done ⟨.returned (.tuple #[]), _, rfl, ⟨rfl, rfl⟩, rfl, rfl, rfl, rfl, _, Try.func8, by simp [results, Try.f8, Frame.at]⟩
/-- The wait group at block b, its channel at block c: the counter is n, t tokens are pending; below w0's blocks nothing has changed. -/
def WG (w0 w : World) (b c : Nat) (n : Int) (t : Nat) : Prop :=
  w.heap[b]? = some (.cells #[.int .i32 n, .chan (some c)] 33 (0, 0)) ∧ (∃ s r, w.heap[c]? = some (.chan 1 (Array.replicate t (.agg #[])) false s r false)) ∧
    b ≠ c ∧ w0.heap.size ≤ b ∧ w0.heap.size ≤ c ∧ Below w0.heap.size w0 w

def Made (w0 : World) (e : Ending) (w : World) : Prop := ∃ b c, e = .returned (.pointer (some ⟨b, 0, none⟩)) ∧ WG w0 w b c 0 0

theorem make_wg (w0 w : World) (h : Below w0.heap.size w0 w) : Calls Try.prog 7 #[] w (Made w0) := by
  refine (make_any w).mono ?_
  rintro e w' ⟨rfl, rfl⟩
  have hs := h.size
  refine ⟨w.heap.size + 1, w.heap.size, rfl, ?_, ⟨0, 0, ?_⟩, by omega, by omega, by omega, ?_⟩
  · have := heap_alloc_new (w.alloc (.chan 1 #[] false 0 0 false)) (.cells #[.int .i32 0, .chan (some w.heap.size)] 33)
    simpa only [World.size_alloc] using this
  · rw [Below.heap_alloc _ _ _ (by simp)]
    exact heap_alloc_new w _
  · exact (h.alloc hs _).alloc (by simp; omega) _

theorem setChan_other (w : World) (c c' cap : Nat) (buf : Array Value) (closed : Bool) (s r : Nat) (tm : Bool) (h : c ≠ c') : (w.setChan c cap buf closed s r tm).heap[c']? = w.heap[c']? := by
  simp [World.setChan, Array.getElem?_setIfInBounds_ne h]

theorem WG.c0 {w0 w : World} {b c : Nat} {n : Int} {t : Nat} (h : WG w0 w b c n t) : w.cell? ⟨b, 0, none⟩ = some (.int .i32 n) := by
  rw [cell_of_row w b 0 _ _ _ h.1]; rfl
theorem WG.c1 {w0 w : World} {b c : Nat} {n : Int} {t : Nat} (h : WG w0 w b c n t) : w.cell? ⟨b, 1, none⟩ = some (.chan (some c)) := by
  rw [cell_of_row w b 1 _ _ _ h.1]; rfl
theorem WG.fz {w0 w : World} {b c : Nat} {n : Int} {t : Nat} (h : WG w0 w b c n t) : w.frozen? ⟨b, 0, none⟩ = false := frozen_of_row w b 0 _ _ h.1

/-- What Add leaves. -/
def Added (w0 : World) (b c : Nat) (n : Int) (t : Nat) (e : Ending) (w : World) : Prop := e = .returned (.tuple #[]) ∧ WG w0 w b c n t

theorem add_wg (w0 w : World) (b c : Nat) (n d : Int) (h : WG w0 w b c n 0) (hlo : 0 < n + d) (hhi : n + d ≤ 2147483647) :
    Calls Try.prog 8 #[.pointer (some ⟨b, 0, none⟩), .int .i32 d] w (Added w0 b c (n + d) 0) := by
  refine (add_pos w b n d h.c0 h.fz hlo hhi).mono ?_
  rintro e w' ⟨rfl, rfl⟩
  obtain ⟨hb, ⟨s, r, hc⟩, hbc, h1, h2, h3⟩ := h
  refine ⟨rfl, heap_setCell_same w b 0 _ _ _ hb, ⟨s, r, ?_⟩, hbc, h1, h2, h3.setCell h1 _⟩
  rw [Below.heap_setCell _ _ _ _ (by exact fun e => hbc e.symm)]
  exact hc

theorem add_wg0 (w0 w : World) (b c : Nat) (n d : Int) (h : WG w0 w b c n 0) (hnd : n + d = 0) :
    Calls Try.prog 8 #[.pointer (some ⟨b, 0, none⟩), .int .i32 d] w (Added w0 b c 0 1) := by
  obtain ⟨s, r, hc⟩ := h.2.1
  refine (add_zero w b c n d s r h.c0 h.fz h.c1 hc h.2.2.1 hnd).mono ?_
  rintro e w' ⟨rfl, rfl⟩
  obtain ⟨hb, _, hbc, h1, h2, h3⟩ := h
  have hb' := heap_setCell_same w b 0 _ _ (.int .i32 0) hb
  have hlt := lt_of_block hc
  refine ⟨rfl, ?_, ⟨s + 1, r, ?_⟩, hbc, h1, h2, below_setChan (h3.setCell h1 _) h2 _ _ _ _ _ _⟩
  · rw [setChan_other _ _ _ _ _ _ _ _ _ (by exact fun e => hbc e.symm)]
    exact hb'
  · exact heap_setChan _ _ _ _ _ _ _ _ (by simpa using hlt)

theorem wait_wg (w0 w : World) (b c : Nat) (n : Int) (h : WG w0 w b c n 1) :
    Calls Try.prog 12 #[.pointer (some ⟨b, 0, none⟩)] w (Added w0 b c n 0) := by
  obtain ⟨s, r, hc⟩ := h.2.1
  refine (wait_any w b c (.agg #[]) s r h.c1 hc).mono ?_
  rintro e w' ⟨rfl, rfl⟩
  obtain ⟨hb, _, hbc, h1, h2, h3⟩ := h
  refine ⟨rfl, ?_, ⟨s, r + 1, ?_⟩, hbc, h1, h2, below_setChan h3 h2 _ _ _ _ _ _⟩
  · rw [setChan_other _ _ _ _ _ _ _ _ _ (by exact fun e => hbc e.symm)]
    exact hb
  · exact heap_setChan _ _ _ _ _ _ _ _ (lt_of_block hc)

theorem counter_wg (w0 w : World) (b c : Nat) (n : Int) (t : Nat) (h : WG w0 w b c n t) :
    Calls Try.prog 9 #[.pointer (some ⟨b, 0, none⟩)] w fun e w' => e = .returned (.int .i32 n) ∧ w = w' :=
  counter_any w b n h.c0

theorem pending_wg (w0 w : World) (b c : Nat) (n : Int) (t : Nat) (h : WG w0 w b c n t) :
    Calls Try.prog 10 #[.pointer (some ⟨b, 0, none⟩)] w fun e w' => e = .returned (.int .i64 t) ∧ w = w' := by
  obtain ⟨s, r, hc⟩ := h.2.1
  refine (pending_any w b c _ s r h.c1 hc).mono ?_
  rintro e w' ⟨rfl, rfl⟩
  exact ⟨by simp, rfl⟩

theorem done_wg (w0 w : World) (b c : Nat) (n : Int) (h : WG w0 w b c n 0) (hlo : 1 < n) (hhi : n ≤ 2147483647) :
    Calls Try.prog 11 #[.pointer (some ⟨b, 0, none⟩)] w (Added w0 b c (n - 1) 0) := by
  have H := Lib.hid (add_wg w0 w b c n (-1) h (by omega) (by omega))
  clear h
  go_enter Try.func11, Try.ntmps11
  go_wp2_with (go_at_call 8; refine H.out.mono ?_; rintro e w' ⟨rfl, h2⟩)
  have h3 := Lib.hid h2
  go_end0
  exact ⟨rfl, h3.out⟩

theorem done_wg0 (w0 w : World) (b c : Nat) (h : WG w0 w b c 1 0) :
    Calls Try.prog 11 #[.pointer (some ⟨b, 0, none⟩)] w (Added w0 b c 0 1) := by
  have H := Lib.hid (add_wg0 w0 w b c 1 (-1) h (by omega))
  clear h
  go_enter Try.func11, Try.ntmps11
  go_wp2_with (go_at_call 8; refine H.out.mono ?_; rintro e w' ⟨rfl, h2⟩)
  have h3 := Lib.hid h2
  go_end0
  exact ⟨rfl, h3.out⟩
end Go.Proofs.Ytchmlhlpchbnoaa.wg
