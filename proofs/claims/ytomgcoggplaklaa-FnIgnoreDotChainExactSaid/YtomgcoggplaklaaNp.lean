/-
  Chains of expressions: a new parser.
-/
import Derived.Test.YtomgcoggplaklaaHe
namespace Go.Proofs.Ytomgcoggplaklaa.ch
open Go.ChangeShapes Go.WideShapes Go.ChangeAt Go.RowKit Go.Deep Go.Proofs.Ytomgcoggplaklaa.mk
set_option linter.unusedVariables false
set_option linter.unusedSimpArgs false
/-- The cells of a literal of type 77: the named fields as given, all else zero. -/
noncomputable def ls  : Array Value := (Try.prog.built 77 []).getD #[]
theorem ls_built  : Try.prog.built 77 [] = some (ls ) := by kernel_rfl
theorem ls_wp {o : Oper} {a : Act} {w : World} {K : Act → World → Prop} {Q : Exit → Act → World → Prop} (ho : o.op = .build 77 #[]) 
    (h : K (a.put o.dst (.agg (ls ))) w) : o.wp Try.prog a w K Q := by
  refine wp_build 77 _ ho ?_ ?_
  · simp only [List.map_toArray, List.map_nil, ls_built]; rfl
  · simp only [List.map_toArray, List.map_nil, ls_built, Option.getD_some]; exact h

/-- The cells of a literal of type 82: the named fields as given, all else zero. -/
noncomputable def lj  : Array Value := (Try.prog.built 82 [(6, .bool false)]).getD #[]
theorem lj_built  : Try.prog.built 82 [(6, .bool false)] = some (lj ) := by kernel_rfl
theorem lj_wp {o : Oper} {a : Act} {w : World} {K : Act → World → Prop} {Q : Exit → Act → World → Prop} (x0 : Operand) (ho : o.op = .build 82 #[(6, x0)])  (h0 : a.eval x0 = .bool false)
    (h : K (a.put o.dst (.agg (lj ))) w) : o.wp Try.prog a w K Q := by
  refine wp_build 82 _ ho ?_ ?_
  · simp only [List.map_toArray, List.map_cons, List.map_nil, lj_built, h0]; rfl
  · simp only [List.map_toArray, List.map_cons, List.map_nil, lj_built, h0, Option.getD_some]; exact h

/-- The cells of a literal of type 109: the named fields as given, all else zero. -/
noncomputable def lo  : Array Value := (Try.prog.built 109 [(1, .agg lj)]).getD #[]
theorem lo_built  : Try.prog.built 109 [(1, .agg lj)] = some (lo ) := by kernel_rfl
theorem lo_wp {o : Oper} {a : Act} {w : World} {K : Act → World → Prop} {Q : Exit → Act → World → Prop} (x0 : Operand) (ho : o.op = .build 109 #[(1, x0)])  (h0 : a.eval x0 = .agg lj)
    (h : K (a.put o.dst (.agg (lo ))) w) : o.wp Try.prog a w K Q := by
  refine wp_build 109 _ ho ?_ ?_
  · simp only [List.map_toArray, List.map_cons, List.map_nil, lo_built, h0]; rfl
  · simp only [List.map_toArray, List.map_cons, List.map_nil, lo_built, h0, Option.getD_some]; exact h

/-- The cells of a literal of type 188: the named fields as given, all else zero. -/
noncomputable def lp (sa : Option Addr) (sn sc : Nat) (pp : Option Addr) (dd : Bool) (m1 : Nat) (m2 : Nat) (m3 : Nat) (m4 : Nat) (m5 : Nat) : Array Value := (Try.prog.built 188 [(9, .slice sa sn sc), (8, .pointer pp), (108, .bool dd), (20, .map (some m1)), (83, .map (some m2)), (84, .map (some m3)), (43, .map (some m4)), (58, .pointer (some ⟨m5, 0, none⟩)), (0, .agg lo)]).getD #[]
theorem lp_built (sa : Option Addr) (sn sc : Nat) (pp : Option Addr) (dd : Bool) (m1 : Nat) (m2 : Nat) (m3 : Nat) (m4 : Nat) (m5 : Nat) : Try.prog.built 188 [(9, .slice sa sn sc), (8, .pointer pp), (108, .bool dd), (20, .map (some m1)), (83, .map (some m2)), (84, .map (some m3)), (43, .map (some m4)), (58, .pointer (some ⟨m5, 0, none⟩)), (0, .agg lo)] = some (lp sa sn sc pp dd m1 m2 m3 m4 m5) := by kernel_rfl
theorem lp_wp {o : Oper} {a : Act} {w : World} {K : Act → World → Prop} {Q : Exit → Act → World → Prop} (x0 : Operand) (x1 : Operand) (x2 : Operand) (x3 : Operand) (x4 : Operand) (x5 : Operand) (x6 : Operand) (x7 : Operand) (x8 : Operand) (ho : o.op = .build 188 #[(9, x0), (8, x1), (108, x2), (20, x3), (83, x4), (84, x5), (43, x6), (58, x7), (0, x8)]) (sa : Option Addr) (sn sc : Nat) (pp : Option Addr) (dd : Bool) (m1 : Nat) (m2 : Nat) (m3 : Nat) (m4 : Nat) (m5 : Nat) (h0 : a.eval x0 = .slice sa sn sc) (h1 : a.eval x1 = .pointer pp) (h2 : a.eval x2 = .bool dd) (h3 : a.eval x3 = .map (some m1)) (h4 : a.eval x4 = .map (some m2)) (h5 : a.eval x5 = .map (some m3)) (h6 : a.eval x6 = .map (some m4)) (h7 : a.eval x7 = .pointer (some ⟨m5, 0, none⟩)) (h8 : a.eval x8 = .agg lo)
    (h : K (a.put o.dst (.agg (lp sa sn sc pp dd m1 m2 m3 m4 m5))) w) : o.wp Try.prog a w K Q := by
  refine wp_build 188 _ ho ?_ ?_
  · simp only [List.map_toArray, List.map_cons, List.map_nil, lp_built, h0, h1, h2, h3, h4, h5, h6, h7, h8]; rfl
  · simp only [List.map_toArray, List.map_cons, List.map_nil, lp_built, h0, h1, h2, h3, h4, h5, h6, h7, h8, Option.getD_some]; exact h


theorem lp_350 (sa : Option Addr) (sn sc : Nat) (pp : Option Addr) (dd : Bool) (m1 : Nat) (m2 : Nat) (m3 : Nat) (m4 : Nat) (m5 : Nat) : (lp sa sn sc pp dd m1 m2 m3 m4 m5)[350]? = some (.bool dd) := by kernel_rfl
theorem lp_105 (sa : Option Addr) (sn sc : Nat) (pp : Option Addr) (dd : Bool) (m1 : Nat) (m2 : Nat) (m3 : Nat) (m4 : Nat) (m5 : Nat) : (lp sa sn sc pp dd m1 m2 m3 m4 m5)[105]? = some (.pointer pp) := by kernel_rfl
theorem lp_106 (sa : Option Addr) (sn sc : Nat) (pp : Option Addr) (dd : Bool) (m1 : Nat) (m2 : Nat) (m3 : Nat) (m4 : Nat) (m5 : Nat) : (lp sa sn sc pp dd m1 m2 m3 m4 m5)[106]? = some (.slice sa sn sc) := by kernel_rfl

def NewP (w : World) (sa : Option Addr) (sn sc : Nat) (pp : Option Addr) (dd : Bool) (e : Ending) (w' : World) : Prop :=
  ∃ g, e = .returned (.pointer (some ⟨g, 0, none⟩)) ∧ w.heap.size ≤ g ∧ w'.cell? ⟨g, 350, none⟩ = some (.bool dd) ∧ w'.cell? ⟨g, 105, none⟩ = some (.pointer pp) ∧ w'.cell? ⟨g, 106, none⟩ = some (.slice sa sn sc) ∧ Below w.heap.size w w'
set_option maxRecDepth 100000 in
set_option maxHeartbeats 4000000 in
theorem new6 (w : World) (sa : Option Addr) (sn sc : Nat) (pp : Option Addr) (dd : Bool) : Calls Try.prog 6 #[.slice sa sn sc, .pointer pp, .bool dd, .bool false] w (NewP w sa sn sc pp dd) := by
  have hmm := @run_makeMap Try.prog
  go_enter Try.func6, Try.ntmps6
  go_wp2_with fail
  refine lp_wp _ _ _ _ _ _ _ _ _ rfl sa sn sc pp dd w.heap.size (w.heap.size + 1) (w.heap.size + 1 + 1) (w.heap.size + 1 + 1 + 1) (w.heap.size + 1 + 1 + 1 + 1) rfl rfl rfl rfl rfl rfl rfl rfl (by kernel_rfl) ?_
  clear hmm
  have HB : Hid (Below w.heap.size w (((((w.alloc (.map #[] 0)).alloc (.map #[] 0)).alloc (.map #[] 0)).alloc (.map #[] 0)).alloc (.cells #[.pointer none, .pointer none, .slice none 0 0, .map none, .slice none 0 0, .slice none 0 0, .int .i32 0, .int .i32 0, .int .u32 0, .int .u32 0, .bool false, .bool false, .bool false, .bool false, .int .u8 0, .int .u8 0] 77))) := Lib.hid (((((Below.refl _ _).alloc (Nat.le_refl _) _).alloc (by simp) _).alloc (by simp; omega) _).alloc (by simp; omega) _ |>.alloc (by simp; omega) _)
  generalize (((((w.alloc (.map #[] 0)).alloc (.map #[] 0)).alloc (.map #[] 0)).alloc (.map #[] 0)).alloc (.cells #[.pointer none, .pointer none, .slice none 0 0, .map none, .slice none 0 0, .slice none 0 0, .int .i32 0, .int .i32 0, .int .u32 0, .int .u32 0, .bool false, .bool false, .bool false, .bool false, .int .u8 0, .int .u8 0] 77)) = w1 at *
  go_simp
  go_wp2_with fail
  go_ret
  have hb := heap_alloc_new w1 (.cells (lp sa sn sc pp dd w.heap.size (w.heap.size + 1) (w.heap.size + 1 + 1) (w.heap.size + 1 + 1 + 1) (w.heap.size + 1 + 1 + 1 + 1)) 188)
  exact ⟨w1.heap.size, rfl, HB.out.size, (cell_of_row _ _ 350 _ _ _ hb).trans (lp_350 ..), (cell_of_row _ _ 105 _ _ _ hb).trans (lp_105 ..), (cell_of_row _ _ 106 _ _ _ hb).trans (lp_106 ..), HB.out.alloc HB.out.size _⟩
end Go.Proofs.Ytomgcoggplaklaa.ch
