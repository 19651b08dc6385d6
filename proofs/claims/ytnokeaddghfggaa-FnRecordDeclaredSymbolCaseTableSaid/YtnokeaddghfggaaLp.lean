/-
  Declared symbols: a new parser, the list before it.
-/
import Derived.Test.YtnokeaddghfggaaRb
namespace Go.Proofs.Ytnokeaddghfggaa.ds
open Go.ChangeShapes Go.WideShapes Go.ChangeAt Go.RowKit Go.Deep Go.Proofs.Ytnokeaddghfggaa.mk
set_option linter.unusedVariables false
set_option linter.unusedSimpArgs false
/-- The cells of a literal of type 194: the named fields as given, all else zero. -/
noncomputable def lp (C : Nat) (B : Nat) (SB n : Nat) (PB : Nat) : Array Value := (Try.prog.built 194 [(7, .pointer (some ⟨C, 0, none⟩)), (58, .pointer (some ⟨B, 0, none⟩)), (9, .slice (some ⟨SB, 0, none⟩) n n), (8, .pointer (some ⟨PB, 0, none⟩))]).getD #[]
theorem lp_built (C : Nat) (B : Nat) (SB n : Nat) (PB : Nat) : Try.prog.built 194 [(7, .pointer (some ⟨C, 0, none⟩)), (58, .pointer (some ⟨B, 0, none⟩)), (9, .slice (some ⟨SB, 0, none⟩) n n), (8, .pointer (some ⟨PB, 0, none⟩))] = some (lp C B SB n PB) := by kernel_rfl
theorem lp_wp {o : Oper} {a : Act} {w : World} {K : Act → World → Prop} {Q : Exit → Act → World → Prop} (x0 : Operand) (x1 : Operand) (x2 : Operand) (x3 : Operand) (ho : o.op = .build 194 #[(7, x0), (58, x1), (9, x2), (8, x3)]) (C : Nat) (B : Nat) (SB n : Nat) (PB : Nat) (h0 : a.eval x0 = .pointer (some ⟨C, 0, none⟩)) (h1 : a.eval x1 = .pointer (some ⟨B, 0, none⟩)) (h2 : a.eval x2 = .slice (some ⟨SB, 0, none⟩) n n) (h3 : a.eval x3 = .pointer (some ⟨PB, 0, none⟩))
    (h : K (a.put o.dst (.agg (lp C B SB n PB))) w) : o.wp Try.prog a w K Q := by
  refine wp_build 194 _ ho ?_ ?_
  · simp only [List.map_toArray, List.map_cons, List.map_nil, lp_built, h0, h1, h2, h3]; rfl
  · simp only [List.map_toArray, List.map_cons, List.map_nil, lp_built, h0, h1, h2, h3, Option.getD_some]; exact h

theorem lp_104 (C : Nat) (B : Nat) (SB n : Nat) (PB : Nat) : (lp C B SB n PB)[104]? = some (.pointer (some ⟨C, 0, none⟩)) := by kernel_rfl
theorem lp_187 (C : Nat) (B : Nat) (SB n : Nat) (PB : Nat) : (lp C B SB n PB)[187]? = some (.pointer (some ⟨B, 0, none⟩)) := by kernel_rfl
theorem lp_106 (C : Nat) (B : Nat) (SB n : Nat) (PB : Nat) : (lp C B SB n PB)[106]? = some (.slice (some ⟨SB, 0, none⟩) n n) := by kernel_rfl
theorem lp_105 (C : Nat) (B : Nat) (SB n : Nat) (PB : Nat) : (lp C B SB n PB)[105]? = some (.pointer (some ⟨PB, 0, none⟩)) := by kernel_rfl
theorem lp_34 (C : Nat) (B : Nat) (SB n : Nat) (PB : Nat) : (lp C B SB n PB)[34]? = some (.int .u8 0) := by kernel_rfl
theorem lp_41 (C : Nat) (B : Nat) (SB n : Nat) (PB : Nat) : (lp C B SB n PB)[41]? = some (.bool false) := by kernel_rfl

theorem sset {A : Array Value} {i j : Nat} {v u : Value} (h : A[i]? = some v) (hij : i ≠ j) : (A.setIfInBounds j u)[i]? = some v := (Array.getElem?_setIfInBounds_ne (fun e => hij e.symm)).trans h
def NewP (w : World) (C B SB n PB : Nat) (e : Ending) (w' : World) : Prop :=
  ∃ g, e = .returned (.pointer (some ⟨g, 0, none⟩)) ∧ w.heap.size ≤ g ∧ w'.cell? ⟨g, 104, none⟩ = some (.pointer (some ⟨C, 0, none⟩)) ∧ w'.cell? ⟨g, 187, none⟩ = some (.pointer (some ⟨B, 0, none⟩)) ∧ w'.cell? ⟨g, 105, none⟩ = some (.pointer (some ⟨PB, 0, none⟩)) ∧ w'.cell? ⟨g, 106, none⟩ = some (.slice (some ⟨SB, 0, none⟩) n n) ∧ Below w.heap.size w w'
set_option maxRecDepth 100000 in
set_option maxHeartbeats 4000000 in
theorem new7 (w : World) (C B SB n PB : Nat) : Calls Try.prog 7 #[.pointer (some ⟨C, 0, none⟩), .pointer (some ⟨B, 0, none⟩), .slice (some ⟨SB, 0, none⟩) n n, .pointer (some ⟨PB, 0, none⟩), .int .u8 0, .bool false] w (NewP w C B SB n PB) := by
  go_enter Try.func7, Try.ntmps7
  go_wp2_with fail
  refine lp_wp _ _ _ _ rfl C B SB n PB rfl rfl rfl rfl ?_
  have p1 := lp_34 C B SB n PB
  have p2 := lp_41 C B SB n PB
  go_simp
  go_wp2_with fail
  go_ret
  have hb := heap_alloc_new w (.cells (((lp C B SB n PB).setIfInBounds 34 (.int .u8 0)).setIfInBounds 41 (.bool false)) 194)
  exact ⟨w.heap.size, rfl, Nat.le_refl _, (cell_of_row _ _ 104 _ _ _ hb).trans (sset (sset (lp_104 ..) (by omega)) (by omega)), (cell_of_row _ _ 187 _ _ _ hb).trans (sset (sset (lp_187 ..) (by omega)) (by omega)), (cell_of_row _ _ 105 _ _ _ hb).trans (sset (sset (lp_105 ..) (by omega)) (by omega)), (cell_of_row _ _ 106 _ _ _ hb).trans (sset (sset (lp_106 ..) (by omega)) (by omega)), (Below.refl _ _).alloc (Nat.le_refl _) _⟩
/-- n entries of three cells. -/
def xsOf (F : Nat → List Value) : Nat → List Value
  | 0 => []
  | m + 1 => xsOf F m ++ F m
theorem xsOf_len {F : Nat → List Value} (h : ∀ i, (F i).length = 3) : ∀ m, (xsOf F m).length = m * 3
  | 0 => rfl
  | m + 1 => by simp [xsOf, xsOf_len h m, h m]; omega
theorem xsOf_get {F : Nat → List Value} (h : ∀ i, (F i).length = 3) : ∀ m i r, i < m → r < 3 → (xsOf F m)[i * 3 + r]? = (F i)[r]?
  | 0, i, r, hi, _ => by omega
  | m + 1, i, r, hi, hr => by
    unfold xsOf
    by_cases e : i = m
    · subst e
      rw [List.getElem?_append_right (by rw [xsOf_len h]; omega), xsOf_len h]
      congr 1; omega
    · rw [List.getElem?_append_left (by rw [xsOf_len h]; omega)]
      exact xsOf_get h m i r (by omega) hr
theorem xsOf_congr {F G : Nat → List Value} : ∀ m, (∀ i, i < m → F i = G i) → xsOf F m = xsOf G m
  | 0, _ => rfl
  | m + 1, h => by simp only [xsOf]; rw [xsOf_congr m (fun i hi => h i (by omega)), h m (by omega)]
/-- An append whose run is known. -/
theorem wpList_append_run {P : Program} {w w' : World} {ops : Array Oper} {rest : List Oper} {o : Oper} {a : Act} {Q : Exit → Act → World → Prop} (hgd : o.guard = none) (s x : Operand) (t : TypeId)
    (ho : o.op = .call { callee := .builtin .append, args := #[s, x], argTypes := #[t, t] }) {v1 v2 v' : Value} (hs : a.eval s = v1) (hx : a.eval x = v2)
    (hr : (Builtin.append_ #[t, t] o.type #[v1, v2]).run P w = .ok v' w') (h : wpList P ops Q rest (a.put o.dst v') w') : wpList P ops Q (o :: rest) a w := by
  refine wpList_plain hgd fun _ hK => ?_
  unfold Oper.wp execOp
  simp only [ho, resolve, invoke, builtin, Sem.run_bind, Sem.run_pure, Result.andThen_ok, List.map_toArray, List.map_cons, List.map_nil, hs, hx, hr]
  exact hK _ _ h
/-- The part's list before there is a parser. -/
structure Dp (w : World) (PB m : Nat) (dv : Value) (xs : List Value) : Prop where
  p3 : w.cell? ⟨PB, 3, none⟩ = some dv
  f3 : w.frozen? ⟨PB, 3, none⟩ = false
  own : w.ownsRow (PB + 1) 45 3 dv m xs
  lt : PB < w.heap.size
theorem Dp.app {w : World} {PB m : Nat} {a : Option Addr} {c : Nat} {xs : List Value} (h : Dp w PB m (.slice a m c) xs) (hm : m ≤ 65536) (x : Int) :
    ∃ k cap w2, (Builtin.append_ #[34, 34] 34 #[.slice a m c, .slice (some ⟨w.heap.size, 0, none⟩) 1 1]).run Try.prog (w.alloc (.cells #[.int .u32 7, .int .u32 x, .bool false] 45)) = .ok (.slice (some ⟨k, 0, none⟩) (m + 1) cap) w2 ∧ w2.cell? ⟨PB, 3, none⟩ = some (.slice a m c) ∧ w2.frozen? ⟨PB, 3, none⟩ = false ∧
      Dp (w2.setCell ⟨PB, 3, none⟩ (.slice (some ⟨k, 0, none⟩) (m + 1) cap)) PB (m + 1) (.slice (some ⟨k, 0, none⟩) (m + 1) cap) (xs ++ [.int .u32 7, .int .u32 x, .bool false]) ∧ Below (PB + 1) w w2 := by
  obtain ⟨i, z, e1, e2, e3, e4, e5⟩ := parts_of info45
  have hl := h.lt
  have hb : (w.alloc (.cells #[.int .u32 7, .int .u32 x, .bool false] 45)).heap[w.heap.size]? = some (.cells #[.int .u32 7, .int .u32 x, .bool false] 45 (0, 0)) := heap_alloc_new w _
  have hsz : (w.alloc (.cells #[.int .u32 7, .int .u32 x, .bool false] 45)).heap.size = w.heap.size + 1 := by simp
  obtain ⟨k, cap, w2, hrun, hown, hgrow, hat, hlt⟩ := run_append_lies (P := Try.prog) (w.alloc (.cells #[.int .u32 7, .int .u32 x, .bool false] 45)) 34 34 (PB + 1) 45 i z 3 12 Try.underlying34 e1 e2 e4 e5 (by rw [e3]; rfl) (by decide) _ m xs (h.own.alloc _) ⟨w.heap.size, 0, none⟩ 1 1 [.int .u32 7, .int .u32 x, .bool false] rfl (World.news_of_block hb) (by simp [Value.oneCell']) (by decide) (by unfold maxLen; omega) (by omega) (by rw [hsz]; omega) _ rfl
  have hbk : ∀ q, q < PB + 1 → w2.heap[q]? = w.heap[q]? := fun q hq => (hgrow.block q (by rw [hsz]; omega) (fun e => by have := (h.own.lt q e.symm).1; omega)).trans (Below.heap_alloc _ _ _ (by omega))
  have hs2 : w.heap.size ≤ w2.heap.size := by have := hgrow.size; rw [hsz] at this; omega
  have c2 : w2.cell? ⟨PB, 3, none⟩ = some (.slice a m c) := (World.cell?_of_block (a := ⟨PB, 3, none⟩) (hbk PB (by omega))).trans h.p3
  have f2 : w2.frozen? ⟨PB, 3, none⟩ = false := (World.frozen?_of_block (a := ⟨PB, 3, none⟩) (hbk PB (by omega))).trans h.f3
  refine ⟨k, cap, w2, hrun, c2, f2, ⟨World.cell?_setCell_same _ _ _ c2, (World.frozen?_setCell _ _ _ _).trans f2, ownsRow_setCell_other hown (a := ⟨PB, 3, none⟩) (fun e => ?_) _, by simpa [World.setCell] using (show PB < w2.heap.size by omega)⟩, ⟨hgrow.os, hgrow.tape, hgrow.output, hs2, hbk⟩⟩
  have := (hown.lt PB e).1; omega
def SomeBool (w : World) (e : Ending) (w' : World) : Prop := (∃ b, e = .returned (.bool b)) ∧ w' = w
set_option maxHeartbeats 1000000 in
theorem bytes4 (w : World) (t : Bool) (a1 : Option Addr) (l1 c1 : Nat) (a2 : Option Addr) (l2 c2 : Nat) (a3 : Option Addr) (l3 c3 : Nat) (p : Int) (a5 : Option Addr) (l5 c5 : Nat) :
    Calls Try.prog 4 #[.bool t, .slice a1 l1 c1, .slice a2 l2 c2, .slice a3 l3 c3, .int .u8 p, .slice a5 l5 c5] w (SomeBool w) := by
  by_cases h1 : l1 ≤ 1048576
  rotate_left
  · go_enter Try.func4, Try.ntmps4
    go_wp2
    go_ret
    exact ⟨⟨_, rfl⟩, rfl⟩
  by_cases h2 : l2 ≤ 1048576
  rotate_left
  · go_enter Try.func4, Try.ntmps4
    go_wp2
    all_goals
      go_ret
      exact ⟨⟨_, rfl⟩, rfl⟩
  by_cases h3 : l3 ≤ 1048576
  rotate_left
  · go_enter Try.func4, Try.ntmps4
    go_wp2
    all_goals
      go_ret
      exact ⟨⟨_, rfl⟩, rfl⟩
  by_cases h5 : l5 ≤ 1048576
  rotate_left
  · go_enter Try.func4, Try.ntmps4
    go_wp2
    all_goals
      go_ret
      exact ⟨⟨_, rfl⟩, rfl⟩
  go_enter Try.func4, Try.ntmps4
  go_wp2
  all_goals
    go_ret
    exact ⟨⟨_, rfl⟩, rfl⟩
end Go.Proofs.Ytnokeaddghfggaa.ds
