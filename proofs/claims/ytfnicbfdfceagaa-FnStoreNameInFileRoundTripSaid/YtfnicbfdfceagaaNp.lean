/-
  Storing a name by its place in the file: the new parser.
-/
import Derived.Test.YtfnicbfdfceagaaMk

namespace Go.Proofs.Ytfnicbfdfceagaa.st
open Go.ChangeShapes Go.WideShapes Go.ChangeAt Go.RowKit Go.Deep
set_option linter.unusedVariables false
set_option linter.unusedSimpArgs false
/-- The cells of a literal of type 158: the named fields as given, all else zero. -/
noncomputable def pr (f0 f1 f2 f3 : Value) (s : ByteArray) : Array Value := (Try.prog.built 158 [(1, .agg #[f0, f1, f2, f3, .int .i8 3, .map none]), (2, .agg (srcC s)), (3, .agg (trC s))]).getD #[]
theorem pr_built (f0 f1 f2 f3 : Value) (s : ByteArray) : Try.prog.built 158 [(1, .agg #[f0, f1, f2, f3, .int .i8 3, .map none]), (2, .agg (srcC s)), (3, .agg (trC s))] = some (pr f0 f1 f2 f3 s) := by kernel_rfl
theorem pr_wp {o : Oper} {a : Act} {w : World} {K : Act → World → Prop} {Q : Exit → Act → World → Prop} (x0 : Operand) (x1 : Operand) (x2 : Operand) (ho : o.op = .build 158 #[(1, x0), (2, x1), (3, x2)]) (f0 f1 f2 f3 : Value) (s : ByteArray) (h0 : a.eval x0 = .agg #[f0, f1, f2, f3, .int .i8 3, .map none]) (h1 : a.eval x1 = .agg (srcC s)) (h2 : a.eval x2 = .agg (trC s))
    (h : K (a.put o.dst (.agg (pr f0 f1 f2 f3 s))) w) : o.wp Try.prog a w K Q := by
  refine wp_build 158 _ ho ?_ ?_
  · simp only [List.map_toArray, List.map_cons, List.map_nil, pr_built, h0, h1, h2]; rfl
  · simp only [List.map_toArray, List.map_cons, List.map_nil, pr_built, h0, h1, h2, Option.getD_some]; exact h


theorem pr_60 (f0 f1 f2 f3 : Value) (s : ByteArray) : (pr f0 f1 f2 f3 s)[60]? = some (.string s) := by kernel_rfl
def NewP (w : World) (s : ByteArray) (e : Ending) (w' : World) : Prop := ∃ g, e = .returned (.pointer (some ⟨g, 0, none⟩)) ∧ w.heap.size ≤ g ∧ w'.cell? ⟨g, 60, none⟩ = some (.string s) ∧ Below w.heap.size w w'
theorem bel2 {w V V2 : World} (h : Hid (Below w.heap.size w V)) (hb : Below V.heap.size V V2) : Hid (Below w.heap.size w V2) := Lib.hid (h.out.trans (hb.mono h.out.size))
def cells10 (w : World) (b : Nat) (s : ByteArray) : Prop := w.cell? ⟨b, 0, none⟩ = some (.string ByteArray.empty) ∧ w.cell? ⟨b, 1, none⟩ = some (.string ByteArray.empty) ∧ w.cell? ⟨b, 2, none⟩ = some (.string ByteArray.empty) ∧ w.cell? ⟨b, 3, none⟩ = some (.string s) ∧
  w.cell? ⟨b, 4, none⟩ = some (.string ByteArray.empty) ∧ w.cell? ⟨b, 5, none⟩ = some (.string ByteArray.empty) ∧ w.cell? ⟨b, 6, none⟩ = some (.string ByteArray.empty) ∧ w.cell? ⟨b, 7, none⟩ = some (.string ByteArray.empty) ∧ w.cell? ⟨b, 8, none⟩ = some (.int .u8 0) ∧ w.cell? ⟨b, 9, none⟩ = some (.int .u32 0)
theorem Src.cells {w : World} {b : Nat} {s : ByteArray} (h : Src w b s) : cells10 w b s :=
  ⟨cell_of_row _ _ 0 _ _ _ h, cell_of_row _ _ 1 _ _ _ h, cell_of_row _ _ 2 _ _ _ h, cell_of_row _ _ 3 _ _ _ h, cell_of_row _ _ 4 _ _ _ h, cell_of_row _ _ 5 _ _ _ h, cell_of_row _ _ 6 _ _ _ h, cell_of_row _ _ 7 _ _ _ h, cell_of_row _ _ 8 _ _ _ h, cell_of_row _ _ 9 _ _ _ h⟩
theorem Src.drew {w : World} {b : Nat} {s : ByteArray} (h : Src w b s) : Src w.drew b s := h
set_option maxRecDepth 100000
set_option maxHeartbeats 4000000
theorem new5 (w : World) (s : ByteArray) : Calls Try.prog 5 #[.string s] w (NewP w s) := by
  go_enter Try.func5, Try.ntmps5
  go_wp2_with fail
  have HS : Hid (Src (w.alloc (.cells (srcC s) 39)) w.heap.size s) := Lib.hid (heap_alloc_new _ _)
  have HB : Hid (Below w.heap.size w (w.alloc (.cells (srcC s) 39))) := Lib.hid ((Below.refl _ _).alloc (Nat.le_refl _) _)
  change Code.wp _ _ _ _ (w.alloc (.cells (srcC s) 39))
  generalize w.alloc (.cells (srcC s) 39) = w1 at *
  have HS1 : Hid (Src w1.drew w.heap.size s) := Lib.hid HS.out.drew
  have HB1 : Hid (Below w.heap.size w w1.drew) := Lib.hid (HB.out.trans (belDrew _))
  obtain ⟨a0, a1, a2, a3, a4, a5, a6, a7, a8, a9⟩ := HS.out.cells
  clear HS HB
  refine wp_region_any (by kernel_rfl) ?_
  try (change wpAny _ _ _ _ _ _ _ (World.drew _))
  refine wpAny_ready (rs := [0, 1]) (by kernel_rfl) (by simp) ?_
  refine AllReady.cons rfl (fun K hK => ?_) (AllReady.cons rfl (fun K hK => ?_) (AllReady.nil))
  · go_simp
    go_wp2_with (go_at_call 8; go_loud (refine (log8 _).mono ?_; rintro e w2 ⟨f0, f1, f2, f3, rfl, hb⟩; have HS2 := Lib.hid (Src.below (Hid.out (by assumption)) hb); obtain ⟨b0, b1, b2, b3, b4, b5, b6, b7, b8, b9⟩ := HS2.out.cells; have HB2 := bel2 (by assumption) hb; clear hb))
    (try (refine hK _ _ ?_; clear hK K))
    refine wpAny_ready (rs := [1, 2]) (by kernel_rfl) (by simp) ?_
    refine AllReady.cons rfl (fun K hK => ?_) (AllReady.cons rfl (fun K hK => ?_) (AllReady.nil))
    · go_simp
      (try (refine hK _ _ ?_; clear hK K))
      refine wpAny_ready (rs := [2]) (by kernel_rfl) (by simp) ?_
      refine AllReady.cons rfl (fun K hK => ?_) (AllReady.nil)
      go_simp
      go_wp2_with (go_at_call 9; go_loud (refine (track9 _ _ s (Hid.out (by assumption))).mono ?_; rintro e w3 ⟨rfl, hb⟩; have HS3 := Lib.hid (Src.below (Hid.out (by assumption)) hb); obtain ⟨d0, d1, d2, d3, d4, d5, d6, d7, d8, d9⟩ := HS3.out.cells; have HB3 := bel2 (by assumption) hb; clear hb))
      (try (refine hK _ _ ?_; clear hK K))
      refine wpAny_ready (rs := [3]) (by kernel_rfl) (by simp) ?_
      refine AllReady.cons rfl (fun K hK => ?_) (AllReady.nil)
      rw [if_pos (by kernel_rfl)]
      refine pr_wp _ _ _ rfl _ _ _ _ _ rfl rfl rfl ?_
      (try (refine hK _ _ ?_; clear hK K))
      refine wpAny_ready (rs := [4]) (by kernel_rfl) (by simp) ?_
      refine AllReady.cons rfl (fun K hK => ?_) (AllReady.nil)
      go_simp
      (try (refine hK _ _ ?_; clear hK K))
      refine wpAny_ready (rs := [5]) (by kernel_rfl) (by simp) ?_
      refine AllReady.cons rfl (fun K hK => ?_) (AllReady.nil)
      go_simp
      (try (refine hK _ _ ?_; clear hK K))
      refine wpAny_done (by kernel_rfl) ?_ _
      (clear HS1 HB1 a0 a1 a2 a3 a4 a5 a6 a7 a8 a9 HS2 b0 b1 b2 b3 b4 b5 b6 b7 b8 b9 HB2 HS3 d0 d1 d2 d3 d4 d5 d6 d7 d8 d9; go_simp; go_wp2_with fail; go_ret; exact ⟨w3.heap.size, rfl, HB3.out.size, (cell_of_row _ _ 60 _ _ _ (heap_alloc_new w3 _)).trans (pr_60 ..), HB3.out.alloc HB3.out.size _⟩)
    · go_simp
      go_wp2_with (go_at_call 9; go_loud (refine (track9 _ _ s (Hid.out (by assumption))).mono ?_; rintro e w3 ⟨rfl, hb⟩; have HS3 := Lib.hid (Src.below (Hid.out (by assumption)) hb); obtain ⟨d0, d1, d2, d3, d4, d5, d6, d7, d8, d9⟩ := HS3.out.cells; have HB3 := bel2 (by assumption) hb; clear hb))
      (try (refine hK _ _ ?_; clear hK K))
      refine wpAny_ready (rs := [1]) (by kernel_rfl) (by simp) ?_
      refine AllReady.cons rfl (fun K hK => ?_) (AllReady.nil)
      go_simp
      (try (refine hK _ _ ?_; clear hK K))
      refine wpAny_ready (rs := [3]) (by kernel_rfl) (by simp) ?_
      refine AllReady.cons rfl (fun K hK => ?_) (AllReady.nil)
      rw [if_pos (by kernel_rfl)]
      refine pr_wp _ _ _ rfl _ _ _ _ _ rfl rfl rfl ?_
      (try (refine hK _ _ ?_; clear hK K))
      refine wpAny_ready (rs := [4]) (by kernel_rfl) (by simp) ?_
      refine AllReady.cons rfl (fun K hK => ?_) (AllReady.nil)
      go_simp
      (try (refine hK _ _ ?_; clear hK K))
      refine wpAny_ready (rs := [5]) (by kernel_rfl) (by simp) ?_
      refine AllReady.cons rfl (fun K hK => ?_) (AllReady.nil)
      go_simp
      (try (refine hK _ _ ?_; clear hK K))
      refine wpAny_done (by kernel_rfl) ?_ _
      (clear HS1 HB1 a0 a1 a2 a3 a4 a5 a6 a7 a8 a9 HS2 b0 b1 b2 b3 b4 b5 b6 b7 b8 b9 HB2 HS3 d0 d1 d2 d3 d4 d5 d6 d7 d8 d9; go_simp; go_wp2_with fail; go_ret; exact ⟨w3.heap.size, rfl, HB3.out.size, (cell_of_row _ _ 60 _ _ _ (heap_alloc_new w3 _)).trans (pr_60 ..), HB3.out.alloc HB3.out.size _⟩)
  · go_simp
    (try (refine hK _ _ ?_; clear hK K))
    refine wpAny_ready (rs := [0]) (by kernel_rfl) (by simp) ?_
    refine AllReady.cons rfl (fun K hK => ?_) (AllReady.nil)
    go_simp
    go_wp2_with (go_at_call 8; go_loud (refine (log8 _).mono ?_; rintro e w2 ⟨f0, f1, f2, f3, rfl, hb⟩; have HS2 := Lib.hid (Src.below (Hid.out (by assumption)) hb); obtain ⟨b0, b1, b2, b3, b4, b5, b6, b7, b8, b9⟩ := HS2.out.cells; have HB2 := bel2 (by assumption) hb; clear hb))
    (try (refine hK _ _ ?_; clear hK K))
    refine wpAny_ready (rs := [2]) (by kernel_rfl) (by simp) ?_
    refine AllReady.cons rfl (fun K hK => ?_) (AllReady.nil)
    go_simp
    go_wp2_with (go_at_call 9; go_loud (refine (track9 _ _ s (Hid.out (by assumption))).mono ?_; rintro e w3 ⟨rfl, hb⟩; have HS3 := Lib.hid (Src.below (Hid.out (by assumption)) hb); obtain ⟨d0, d1, d2, d3, d4, d5, d6, d7, d8, d9⟩ := HS3.out.cells; have HB3 := bel2 (by assumption) hb; clear hb))
    (try (refine hK _ _ ?_; clear hK K))
    refine wpAny_ready (rs := [3]) (by kernel_rfl) (by simp) ?_
    refine AllReady.cons rfl (fun K hK => ?_) (AllReady.nil)
    rw [if_pos (by kernel_rfl)]
    refine pr_wp _ _ _ rfl _ _ _ _ _ rfl rfl rfl ?_
    (try (refine hK _ _ ?_; clear hK K))
    refine wpAny_ready (rs := [4]) (by kernel_rfl) (by simp) ?_
    refine AllReady.cons rfl (fun K hK => ?_) (AllReady.nil)
    go_simp
    (try (refine hK _ _ ?_; clear hK K))
    refine wpAny_ready (rs := [5]) (by kernel_rfl) (by simp) ?_
    refine AllReady.cons rfl (fun K hK => ?_) (AllReady.nil)
    go_simp
    (try (refine hK _ _ ?_; clear hK K))
    refine wpAny_done (by kernel_rfl) ?_ _
    (clear HS1 HB1 a0 a1 a2 a3 a4 a5 a6 a7 a8 a9 HS2 b0 b1 b2 b3 b4 b5 b6 b7 b8 b9 HB2 HS3 d0 d1 d2 d3 d4 d5 d6 d7 d8 d9; go_simp; go_wp2_with fail; go_ret; exact ⟨w3.heap.size, rfl, HB3.out.size, (cell_of_row _ _ 60 _ _ _ (heap_alloc_new w3 _)).trans (pr_60 ..), HB3.out.alloc HB3.out.size _⟩)
end Go.Proofs.Ytfnicbfdfceagaa.st
