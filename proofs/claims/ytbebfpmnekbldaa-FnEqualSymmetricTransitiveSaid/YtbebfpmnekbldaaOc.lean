/-
  Options: Equal.
-/
import Derived.Test.YtbebfpmnekbldaaOf
import Derived.Deep.QuietTactic
import Derived.Shelf.SlSortCmp.QuietGrown

namespace Go.Proofs.Ytbebfpmnekbldaa.op
open Go.ChangeShapes Go.WideShapes Go.ChangeAt Go.RowKit Go.Deep
set_option linter.unusedVariables false
set_option linter.unusedSimpArgs false
set_option maxRecDepth 100000
/-- The cells of a literal of type 60: the named fields as given, all else zero. -/
noncomputable def ov (m : Option Addr) (r : Option Addr) (la : Option Addr) (ln lc : Nat) (env : ByteArray) (f g h : Int) (b0 b1 b2 b3 b4 b5 b6 b7 b8 b9 b10 y : Bool) : Array Value := (Try.prog.built 60 [(3, .pointer m), (4, .pointer r), (5, .slice la ln lc), (7, .agg (sv env f g h b0 b1 b2 b3 b4 b5 b6 b7 b8 b9 b10 y))]).getD #[]
theorem ov_built (m : Option Addr) (r : Option Addr) (la : Option Addr) (ln lc : Nat) (env : ByteArray) (f g h : Int) (b0 b1 b2 b3 b4 b5 b6 b7 b8 b9 b10 y : Bool) : Try.prog.built 60 [(3, .pointer m), (4, .pointer r), (5, .slice la ln lc), (7, .agg (sv env f g h b0 b1 b2 b3 b4 b5 b6 b7 b8 b9 b10 y))] = some (ov m r la ln lc env f g h b0 b1 b2 b3 b4 b5 b6 b7 b8 b9 b10 y) := by kernel_rfl
theorem ov_wp {o : Oper} {a : Act} {w : World} {K : Act → World → Prop} {Q : Exit → Act → World → Prop} (x0 : Operand) (x1 : Operand) (x2 : Operand) (x3 : Operand) (ho : o.op = .build 60 #[(3, x0), (4, x1), (5, x2), (7, x3)]) (m : Option Addr) (r : Option Addr) (la : Option Addr) (ln lc : Nat) (env : ByteArray) (f g h : Int) (b0 b1 b2 b3 b4 b5 b6 b7 b8 b9 b10 y : Bool) (h0 : a.eval x0 = .pointer m) (h1 : a.eval x1 = .pointer r) (h2 : a.eval x2 = .slice la ln lc) (h3 : a.eval x3 = .agg (sv env f g h b0 b1 b2 b3 b4 b5 b6 b7 b8 b9 b10 y))
    (h : K (a.put o.dst (.agg (ov m r la ln lc env f g h b0 b1 b2 b3 b4 b5 b6 b7 b8 b9 b10 y))) w) : o.wp Try.prog a w K Q := by
  refine wp_build 60 _ ho ?_ ?_
  · simp only [List.map_toArray, List.map_cons, List.map_nil, ov_built, h0, h1, h2, h3]; rfl
  · simp only [List.map_toArray, List.map_cons, List.map_nil, ov_built, h0, h1, h2, h3, Option.getD_some]; exact h

theorem ov_0 (m r la : Option Addr) (ln lc : Nat) (env : ByteArray) (f g h : Int) (b0 b1 b2 b3 b4 b5 b6 b7 b8 b9 b10 y : Bool) : (ov m r la ln lc env f g h b0 b1 b2 b3 b4 b5 b6 b7 b8 b9 b10 y)[0]? = some (.slice none 0 0) := by kernel_rfl
theorem ov_1 (m r la : Option Addr) (ln lc : Nat) (env : ByteArray) (f g h : Int) (b0 b1 b2 b3 b4 b5 b6 b7 b8 b9 b10 y : Bool) : (ov m r la ln lc env f g h b0 b1 b2 b3 b4 b5 b6 b7 b8 b9 b10 y)[1]? = some (.nilIface) := by kernel_rfl
theorem ov_2 (m r la : Option Addr) (ln lc : Nat) (env : ByteArray) (f g h : Int) (b0 b1 b2 b3 b4 b5 b6 b7 b8 b9 b10 y : Bool) : (ov m r la ln lc env f g h b0 b1 b2 b3 b4 b5 b6 b7 b8 b9 b10 y)[2]? = some (.slice none 0 0) := by kernel_rfl
theorem ov_3 (m r la : Option Addr) (ln lc : Nat) (env : ByteArray) (f g h : Int) (b0 b1 b2 b3 b4 b5 b6 b7 b8 b9 b10 y : Bool) : (ov m r la ln lc env f g h b0 b1 b2 b3 b4 b5 b6 b7 b8 b9 b10 y)[3]? = some (.int .u32 0) := by kernel_rfl
theorem ov_4 (m r la : Option Addr) (ln lc : Nat) (env : ByteArray) (f g h : Int) (b0 b1 b2 b3 b4 b5 b6 b7 b8 b9 b10 y : Bool) : (ov m r la ln lc env f g h b0 b1 b2 b3 b4 b5 b6 b7 b8 b9 b10 y)[4]? = some (.nilIface) := by kernel_rfl
theorem ov_5 (m r la : Option Addr) (ln lc : Nat) (env : ByteArray) (f g h : Int) (b0 b1 b2 b3 b4 b5 b6 b7 b8 b9 b10 y : Bool) : (ov m r la ln lc env f g h b0 b1 b2 b3 b4 b5 b6 b7 b8 b9 b10 y)[5]? = some (.slice none 0 0) := by kernel_rfl
theorem ov_6 (m r la : Option Addr) (ln lc : Nat) (env : ByteArray) (f g h : Int) (b0 b1 b2 b3 b4 b5 b6 b7 b8 b9 b10 y : Bool) : (ov m r la ln lc env f g h b0 b1 b2 b3 b4 b5 b6 b7 b8 b9 b10 y)[6]? = some (.int .u32 0) := by kernel_rfl
theorem ov_7 (m r la : Option Addr) (ln lc : Nat) (env : ByteArray) (f g h : Int) (b0 b1 b2 b3 b4 b5 b6 b7 b8 b9 b10 y : Bool) : (ov m r la ln lc env f g h b0 b1 b2 b3 b4 b5 b6 b7 b8 b9 b10 y)[7]? = some (.bool false) := by kernel_rfl
theorem ov_13 (m r la : Option Addr) (ln lc : Nat) (env : ByteArray) (f g h : Int) (b0 b1 b2 b3 b4 b5 b6 b7 b8 b9 b10 y : Bool) : (ov m r la ln lc env f g h b0 b1 b2 b3 b4 b5 b6 b7 b8 b9 b10 y)[13]? = some (.pointer none) := by kernel_rfl
theorem ov_14 (m r la : Option Addr) (ln lc : Nat) (env : ByteArray) (f g h : Int) (b0 b1 b2 b3 b4 b5 b6 b7 b8 b9 b10 y : Bool) : (ov m r la ln lc env f g h b0 b1 b2 b3 b4 b5 b6 b7 b8 b9 b10 y)[14]? = some (.pointer m) := by kernel_rfl
theorem ov_15 (m r la : Option Addr) (ln lc : Nat) (env : ByteArray) (f g h : Int) (b0 b1 b2 b3 b4 b5 b6 b7 b8 b9 b10 y : Bool) : (ov m r la ln lc env f g h b0 b1 b2 b3 b4 b5 b6 b7 b8 b9 b10 y)[15]? = some (.pointer r) := by kernel_rfl
theorem ov_16 (m r la : Option Addr) (ln lc : Nat) (env : ByteArray) (f g h : Int) (b0 b1 b2 b3 b4 b5 b6 b7 b8 b9 b10 y : Bool) : (ov m r la ln lc env f g h b0 b1 b2 b3 b4 b5 b6 b7 b8 b9 b10 y)[16]? = some (.slice la ln lc) := by kernel_rfl
theorem ov_17 (m r la : Option Addr) (ln lc : Nat) (env : ByteArray) (f g h : Int) (b0 b1 b2 b3 b4 b5 b6 b7 b8 b9 b10 y : Bool) : (ov m r la ln lc env f g h b0 b1 b2 b3 b4 b5 b6 b7 b8 b9 b10 y)[17]? = some (.pointer none) := by kernel_rfl

theorem ov_58 (m r la : Option Addr) (ln lc : Nat) (env : ByteArray) (f g h : Int) (b0 b1 b2 b3 b4 b5 b6 b7 b8 b9 b10 y : Bool) : (ov m r la ln lc env f g h b0 b1 b2 b3 b4 b5 b6 b7 b8 b9 b10 y).extract 18 51 = sv env f g h b0 b1 b2 b3 b4 b5 b6 b7 b8 b9 b10 y := by kernel_rfl
theorem ov_size (m r la : Option Addr) (ln lc : Nat) (env : ByteArray) (f g h : Int) (b0 b1 b2 b3 b4 b5 b6 b7 b8 b9 b10 y : Bool) : (ov m r la ln lc env f g h b0 b1 b2 b3 b4 b5 b6 b7 b8 b9 b10 y).size = 51 := by kernel_rfl
theorem sv_size (env : ByteArray) (f g h : Int) (b0 b1 b2 b3 b4 b5 b6 b7 b8 b9 b10 y : Bool) : (sv env f g h b0 b1 b2 b3 b4 b5 b6 b7 b8 b9 b10 y).size = 33 := by kernel_rfl
theorem quietLoad {C : World → Prop} {o : Oper} {a : Act} {w : World} (ty : TypeId) (x : Operand) (ho : o.op = .load ty x) (b off : Nat) (hx : a.eval x = .pointer (some ⟨b, off, none⟩)) (cs : Array Value) (hC : w.rangeAt b off cs.toList) (d : TypeDesc)
    (hu : Try.prog.underlying ty = some d) (hd : d.isRow = true) (hi : (Try.prog.info? ty).map (·.size) = some cs.size) : o.quietAt Try.prog a C w (.agg cs) := by
  unfold Oper.quietAt execOp
  simp only [ho, hx, Instr.loadAt, Instr.sureAddr, Sem.run_bind, Sem.run_pure, Result.andThen_ok, run_loadVar_mid w b off ty cs.toList d hC hu hd (by simpa using hi)]
  exact ⟨rfl, rfl⟩
theorem quietNeq {C : World → Prop} {o : Oper} {a : Act} {w : World} (x y : Operand) (ho : o.op = .binOp .neq 58 x y 58) (xs ys : Array Value) (hx : a.eval x = .agg xs) (hy : a.eval y = .agg ys) (b : Bool)
    (hr : (Op.equalIn 10000 58 (.agg xs) (.agg ys)).run Try.prog w = .ok b w) : o.quietAt Try.prog a C w (.bool (!b)) := by
  unfold Oper.quietAt execOp
  simp only [ho, hx, hy, Sem.run_bind, Sem.run_pure, run_eqGuard_agg (P := Try.prog) w .neq 58 x y xs ys (by kernel_rfl), run_neq_struct, hr, Result.andThen_ok]
  exact ⟨rfl, rfl⟩
theorem rangeOv {w : World} {A : Nat} {m r la : Option Addr} {ln lc : Nat} {env : ByteArray} {f g h : Int} {b0 b1 b2 b3 b4 b5 b6 b7 b8 b9 b10 y : Bool} (hA : w.heap[A]? = some (.cells (ov m r la ln lc env f g h b0 b1 b2 b3 b4 b5 b6 b7 b8 b9 b10 y) 60 (0, 0))) : w.rangeAt A 18 (sv env f g h b0 b1 b2 b3 b4 b5 b6 b7 b8 b9 b10 y).toList := by
  have := World.rangeAt_of_block hA 18 33
  rw [ov_58] at this
  exact this
theorem drewN_heap (w : World) (n : Nat) : (w.drewN n).heap = w.heap := rfl
theorem below_grow (B : Nat) (w : World) (n : Nat) (os : Array Obj) (h : B ≤ w.heap.size) : Below B w (Sort.grow (w.drewN n) os) :=
  ⟨rfl, rfl, rfl, by simp, fun k hk => Sort.heap_grow_old (w.drewN n) os (by show k < w.heap.size; omega)⟩
theorem jsx24g (w : World) : Calls Try.prog 24 #[.agg zj, .agg zj] w fun e w' => e = .returned (.bool true) ∧ ∃ q os', w' = Sort.grow (w.drewN q) os' :=
  (jsx24 w).mono fun e w' ⟨h, k⟩ => ⟨h, 0, #[.cells zj 30, .cells zj 30], by rw [k, Sort.alloc_eq_grow, Sort.alloc_eq_grow, Sort.grow_grow]; rfl⟩
def EqS (env : ByteArray) (f g h : Int) (b0 b1 b2 b3 b4 b5 b6 b7 b8 b9 b10 y : Bool) (env' : ByteArray) (f' g' h' : Int) (b0' b1' b2' b3' b4' b5' b6' b7' b8' b9' b10' y' : Bool) : Bool := env == env' && f == f' && g == g' && h == h' && b0 == b0' && b1 == b1' && b2 == b2' && b3 == b3' && b4 == b4' && b5 == b5' && b6 == b6' && b7 == b7' && b8 == b8' && b9 == b9' && b10 == b10' && y == y'
set_option maxHeartbeats 4000000
theorem equal20 (w : World) (A B : Nat) (m r la : Option Addr) (ln lc : Nat) (env : ByteArray) (f g h : Int) (b0 b1 b2 b3 b4 b5 b6 b7 b8 b9 b10 y : Bool) (m' r' la' : Option Addr) (ln' lc' : Nat) (env' : ByteArray) (f' g' h' : Int) (b0' b1' b2' b3' b4' b5' b6' b7' b8' b9' b10' y' : Bool) (hA : w.heap[A]? = some (.cells (ov m r la ln lc env f g h b0 b1 b2 b3 b4 b5 b6 b7 b8 b9 b10 y) 60 (0, 0))) (hB : w.heap[B]? = some (.cells (ov m' r' la' ln' lc' env' f' g' h' b0' b1' b2' b3' b4' b5' b6' b7' b8' b9' b10' y') 60 (0, 0)))
    (rm : Rx w m) (rr : Rx w r) (rm' : Rx w m') (rr' : Rx w r') (V V' : Nat → ByteArray) (hn : ln ≤ 1048576) (hv : Row w la ln (fun i => .string (V i))) (hv' : Row w la' ln' (fun i => .string (V' i))) (c : Bool) (hc : SameL ln ln' V V' c) :
    Calls Try.prog 20 #[.pointer (some ⟨A, 0, none⟩), .pointer (some ⟨B, 0, none⟩)] w (fun e w' => e = .returned (.bool (EqS env f g h b0 b1 b2 b3 b4 b5 b6 b7 b8 b9 b10 y env' f' g' h' b0' b1' b2' b3' b4' b5' b6' b7' b8' b9' b10' y' && (m.isNone == m'.isNone) && (r.isNone == r'.isNone) && c)) ∧ Below w.heap.size w w') := by
  have HA := Lib.hid hA
  have HB := Lib.hid hB
  have HR := Lib.hid (And.intro rm (And.intro rr (And.intro rm' rr')))
  have HV := Lib.hid (And.intro hv hv')
  have HC := Lib.hid hc
  clear hA hB rm rr rm' rr' hv hv' hc
  go_enter Try.func20, Try.ntmps20
  go_wp2_with fail
  refine wp_region_quiet_lit (by kernel_rfl) (by kernel_rfl) ?_
  go_big_quiet_step (fail)
  go_big_quiet_step (fail)
  go_big_quiet_step (fail)
  refine wpQuiet_step fun K hK => ?_
  rw [if_pos (by kernel_rfl)]
  refine ⟨.agg (sv env f g h b0 b1 b2 b3 b4 b5 b6 b7 b8 b9 b10 y), fun w' hw' => quietLoad 58 _ rfl A 18 rfl _ (by obtain ⟨n, rfl⟩ := hw'; exact rangeOv HA.out) _ Try.underlying58 rfl (by rw [sv_size]; kernel_rfl), hK _ ?_⟩
  clear hK K
  go_simp
  go_big_quiet_step (fail)
  go_big_quiet_step (fail)
  go_big_quiet_step (fail)
  refine wpQuiet_step fun K hK => ?_
  rw [if_pos (by kernel_rfl)]
  refine ⟨.agg (sv env' f' g' h' b0' b1' b2' b3' b4' b5' b6' b7' b8' b9' b10' y'), fun w' hw' => quietLoad 58 _ rfl B 18 rfl _ (by obtain ⟨n, rfl⟩ := hw'; exact rangeOv HB.out) _ Try.underlying58 rfl (by rw [sv_size]; kernel_rfl), hK _ ?_⟩
  clear hK K
  refine wpQuiet_step fun K hK => ?_
  rw [if_pos (by kernel_rfl)]
  refine ⟨.bool (!EqS env f g h b0 b1 b2 b3 b4 b5 b6 b7 b8 b9 b10 y env' f' g' h' b0' b1' b2' b3' b4' b5' b6' b7' b8' b9' b10' y'), fun w' hw' => quietNeq _ _ rfl _ _ rfl rfl _ (eqS env f g h b0 b1 b2 b3 b4 b5 b6 b7 b8 b9 b10 y env' f' g' h' b0' b1' b2' b3' b4' b5' b6' b7' b8' b9' b10' y' w'), hK _ ?_⟩
  clear hK K
  refine wpQuiet_nil ?_
  intro nq
  obtain ⟨e, he⟩ : ∃ e, EqS env f g h b0 b1 b2 b3 b4 b5 b6 b7 b8 b9 b10 y env' f' g' h' b0' b1' b2' b3' b4' b5' b6' b7' b8' b9' b10' y' = e := ⟨_, rfl⟩
  rw [he]
  have HA1 : Hid ((w.drewN nq).heap[A]? = some (.cells (ov m r la ln lc env f g h b0 b1 b2 b3 b4 b5 b6 b7 b8 b9 b10 y) 60 (0, 0))) := HA
  have HB1 : Hid ((w.drewN nq).heap[B]? = some (.cells (ov m' r' la' ln' lc' env' f' g' h' b0' b1' b2' b3' b4' b5' b6' b7' b8' b9' b10' y') 60 (0, 0))) := HB
  have HR1 : Hid (Rx (w.drewN nq) m ∧ Rx (w.drewN nq) r ∧ Rx (w.drewN nq) m' ∧ Rx (w.drewN nq) r') := HR
  have HV1 : Hid (Row (w.drewN nq) la ln (fun i => .string (V i)) ∧ Row (w.drewN nq) la' ln' (fun i => .string (V' i))) := HV
  have HW1 : Hid (Below w.heap.size w (w.drewN nq)) := Lib.hid ⟨rfl, rfl, rfl, Nat.le_refl _, fun _ _ => rfl⟩
  generalize w.drewN nq = w1 at *
  cases e
  · go_simp
    go_wp2_with fail
    go_ret
    exact ⟨by simp [he], HW1.out⟩
  · have a0 : w1.cell? ⟨A, 0, none⟩ = some (.slice none 0 0) := (cell_of_row _ _ 0 _ _ _ HA1.out).trans (ov_0 ..)
    have a1 : w1.cell? ⟨A, 1, none⟩ = some (.nilIface) := (cell_of_row _ _ 1 _ _ _ HA1.out).trans (ov_1 ..)
    have a2 : w1.cell? ⟨A, 2, none⟩ = some (.slice none 0 0) := (cell_of_row _ _ 2 _ _ _ HA1.out).trans (ov_2 ..)
    have a3 : w1.cell? ⟨A, 3, none⟩ = some (.int .u32 0) := (cell_of_row _ _ 3 _ _ _ HA1.out).trans (ov_3 ..)
    have a4 : w1.cell? ⟨A, 4, none⟩ = some (.nilIface) := (cell_of_row _ _ 4 _ _ _ HA1.out).trans (ov_4 ..)
    have a5 : w1.cell? ⟨A, 5, none⟩ = some (.slice none 0 0) := (cell_of_row _ _ 5 _ _ _ HA1.out).trans (ov_5 ..)
    have a6 : w1.cell? ⟨A, 6, none⟩ = some (.int .u32 0) := (cell_of_row _ _ 6 _ _ _ HA1.out).trans (ov_6 ..)
    have a7 : w1.cell? ⟨A, 7, none⟩ = some (.bool false) := (cell_of_row _ _ 7 _ _ _ HA1.out).trans (ov_7 ..)
    have a13 : w1.cell? ⟨A, 13, none⟩ = some (.pointer none) := (cell_of_row _ _ 13 _ _ _ HA1.out).trans (ov_13 ..)
    have a14 : w1.cell? ⟨A, 14, none⟩ = some (.pointer m) := (cell_of_row _ _ 14 _ _ _ HA1.out).trans (ov_14 ..)
    have a15 : w1.cell? ⟨A, 15, none⟩ = some (.pointer r) := (cell_of_row _ _ 15 _ _ _ HA1.out).trans (ov_15 ..)
    have a16 : w1.cell? ⟨A, 16, none⟩ = some (.slice la ln lc) := (cell_of_row _ _ 16 _ _ _ HA1.out).trans (ov_16 ..)
    have a17 : w1.cell? ⟨A, 17, none⟩ = some (.pointer none) := (cell_of_row _ _ 17 _ _ _ HA1.out).trans (ov_17 ..)
    have d0 : w1.cell? ⟨B, 0, none⟩ = some (.slice none 0 0) := (cell_of_row _ _ 0 _ _ _ HB1.out).trans (ov_0 ..)
    have d1 : w1.cell? ⟨B, 1, none⟩ = some (.nilIface) := (cell_of_row _ _ 1 _ _ _ HB1.out).trans (ov_1 ..)
    have d2 : w1.cell? ⟨B, 2, none⟩ = some (.slice none 0 0) := (cell_of_row _ _ 2 _ _ _ HB1.out).trans (ov_2 ..)
    have d3 : w1.cell? ⟨B, 3, none⟩ = some (.int .u32 0) := (cell_of_row _ _ 3 _ _ _ HB1.out).trans (ov_3 ..)
    have d4 : w1.cell? ⟨B, 4, none⟩ = some (.nilIface) := (cell_of_row _ _ 4 _ _ _ HB1.out).trans (ov_4 ..)
    have d5 : w1.cell? ⟨B, 5, none⟩ = some (.slice none 0 0) := (cell_of_row _ _ 5 _ _ _ HB1.out).trans (ov_5 ..)
    have d6 : w1.cell? ⟨B, 6, none⟩ = some (.int .u32 0) := (cell_of_row _ _ 6 _ _ _ HB1.out).trans (ov_6 ..)
    have d7 : w1.cell? ⟨B, 7, none⟩ = some (.bool false) := (cell_of_row _ _ 7 _ _ _ HB1.out).trans (ov_7 ..)
    have d13 : w1.cell? ⟨B, 13, none⟩ = some (.pointer none) := (cell_of_row _ _ 13 _ _ _ HB1.out).trans (ov_13 ..)
    have d14 : w1.cell? ⟨B, 14, none⟩ = some (.pointer m') := (cell_of_row _ _ 14 _ _ _ HB1.out).trans (ov_14 ..)
    have d15 : w1.cell? ⟨B, 15, none⟩ = some (.pointer r') := (cell_of_row _ _ 15 _ _ _ HB1.out).trans (ov_15 ..)
    have d16 : w1.cell? ⟨B, 16, none⟩ = some (.slice la' ln' lc') := (cell_of_row _ _ 16 _ _ _ HB1.out).trans (ov_16 ..)
    have d17 : w1.cell? ⟨B, 17, none⟩ = some (.pointer none) := (cell_of_row _ _ 17 _ _ _ HB1.out).trans (ov_17 ..)
    have HE := Lib.hid he
    clear he
    go_simp
    go_wp2_with fail
    go_quiet (fail)
    obtain ⟨nqa, rfl⟩ : ∃ x : Nat, x = nq := ⟨_, rfl⟩
    have HR3 : ∀ n, Rx (w1.drewN n) m ∧ Rx (w1.drewN n) r ∧ Rx (w1.drewN n) m' ∧ Rx (w1.drewN n) r' := fun n => HR1.out
    go_simp
    go_wp2_with fail
    rcases e1 : (m.isNone == m'.isNone) with _ | _
    · have E1 := Lib.hid e1
      clear e1
      go_quiet ((go_at_call 22; refine (same22 _ m m' (HR3 _).1 (HR3 _).2.2.1).mono ?_; rw [E1.out]; rintro e w' ⟨he, hw⟩; exact ⟨he, _, hw.symm⟩))
      go_simp
      go_wp2_with fail
      go_ret
      exact ⟨by rw [E1.out]; simp, HW1.out.trans ⟨rfl, rfl, rfl, Nat.le_refl _, fun _ _ => rfl⟩⟩
    · have E1 := Lib.hid e1
      clear e1
      rcases e2 : (r.isNone == r'.isNone) with _ | _
      · have E2 := Lib.hid e2
        clear e2
        go_quiet ((go_at_call 22; first | (go_at_call_of 22 (Value.pointer m); refine (same22 _ m m' (HR3 _).1 (HR3 _).2.2.1).mono ?_; rw [E1.out]; rintro e w' ⟨he, hw⟩; exact ⟨he, _, hw.symm⟩) | (go_at_call_of 22 (Value.pointer r); refine (same22 _ r r' (HR3 _).2.1 (HR3 _).2.2.2).mono ?_; rw [E2.out]; rintro e w' ⟨he, hw⟩; exact ⟨he, _, hw.symm⟩)))
        go_simp
        go_wp2_with fail
        go_ret
        exact ⟨by rw [E2.out]; simp, HW1.out.trans ⟨rfl, rfl, rfl, Nat.le_refl _, fun _ _ => rfl⟩⟩
      · have E2 := Lib.hid e2
        clear e2
        go_quiet ((go_at_call 22; first | (go_at_call_of 22 (Value.pointer m); refine (same22 _ m m' (HR3 _).1 (HR3 _).2.2.1).mono ?_; rw [E1.out]; rintro e w' ⟨he, hw⟩; exact ⟨he, _, hw.symm⟩) | (go_at_call_of 22 (Value.pointer r); refine (same22 _ r r' (HR3 _).2.1 (HR3 _).2.2.2).mono ?_; rw [E2.out]; rintro e w' ⟨he, hw⟩; exact ⟨he, _, hw.symm⟩)))
        obtain ⟨nqb, rfl⟩ : ∃ x : Nat, x = nq := ⟨_, rfl⟩
        have HV3 : ∀ n, Row (w1.drewN n) la ln (fun i => .string (V i)) ∧ Row (w1.drewN n) la' ln' (fun i => .string (V' i)) := fun n => HV1.out
        have HV4 : ∀ n n2, Row ((w1.drewN n2).drewN n) la ln (fun i => .string (V i)) ∧ Row ((w1.drewN n2).drewN n) la' ln' (fun i => .string (V' i)) := fun n n2 => HV1.out
        go_simp
        go_wp2_with fail
        refine wp_region_quiet_lit (by kernel_rfl) (by kernel_rfl) ?_
        repeat (go_big_quiet_step (fail))
        go_big_quiet_want
        go_big_quiet_op
        apply Exists.intro
        refine ⟨fun _ => ?_, ?_⟩
        · go_at_call 23
          exact (eq23c _ la la' ln ln' lc lc' V V' c HC.out hn (HV3 _).1 (HV3 _).2).mono fun _ _ hh => ⟨hh.1, _, hh.2⟩
        go_big_quiet_on
        repeat (go_big_quiet_step (fail))
        refine wpQuiet_nil ?_
        intro _ hw'
        obtain ⟨nq3, hw''⟩ := hw'
        subst hw''
        rcases c with _ | _
        · go_simp
          go_wp2_with fail
          go_ret
          exact ⟨by simp, HW1.out.trans ⟨rfl, rfl, rfl, Nat.le_refl _, fun _ _ => rfl⟩⟩
        · clear HR3 HV3 HV4 HR1 HV1 HR HV HA HB
          clear a0 a1 a2 a3 a4 a5 a6 a7 a13 a14 a15 a16 a17 d0 d1 d2 d3 d4 d5 d6 d7 d13 d14 d15 d16 d17
          go_simp
          go_wp2_with fail
          have HA2 : Hid ((w1.drewN (nqa + nqb + nq3)).heap[A]? = some (.cells (ov m r la ln lc env f g h b0 b1 b2 b3 b4 b5 b6 b7 b8 b9 b10 y) 60 (0, 0))) := HA1
          have HB2 : Hid ((w1.drewN (nqa + nqb + nq3)).heap[B]? = some (.cells (ov m' r' la' ln' lc' env' f' g' h' b0' b1' b2' b3' b4' b5' b6' b7' b8' b9' b10' y') 60 (0, 0))) := HB1
          have HW2 : Hid (Below w.heap.size w (w1.drewN (nqa + nqb + nq3))) := Lib.hid (HW1.out.trans ⟨rfl, rfl, rfl, Nat.le_refl _, fun _ _ => rfl⟩)
          clear HA1 HB1 HW1
          generalize w1.drewN (nqa + nqb + nq3) = w2 at *
          have a0 : w2.cell? ⟨A, 0, none⟩ = some (.slice none 0 0) := (cell_of_row _ _ 0 _ _ _ HA2.out).trans (ov_0 ..)
          have a1 : w2.cell? ⟨A, 1, none⟩ = some (.nilIface) := (cell_of_row _ _ 1 _ _ _ HA2.out).trans (ov_1 ..)
          have a2 : w2.cell? ⟨A, 2, none⟩ = some (.slice none 0 0) := (cell_of_row _ _ 2 _ _ _ HA2.out).trans (ov_2 ..)
          have a3 : w2.cell? ⟨A, 3, none⟩ = some (.int .u32 0) := (cell_of_row _ _ 3 _ _ _ HA2.out).trans (ov_3 ..)
          have a4 : w2.cell? ⟨A, 4, none⟩ = some (.nilIface) := (cell_of_row _ _ 4 _ _ _ HA2.out).trans (ov_4 ..)
          have a5 : w2.cell? ⟨A, 5, none⟩ = some (.slice none 0 0) := (cell_of_row _ _ 5 _ _ _ HA2.out).trans (ov_5 ..)
          have a6 : w2.cell? ⟨A, 6, none⟩ = some (.int .u32 0) := (cell_of_row _ _ 6 _ _ _ HA2.out).trans (ov_6 ..)
          have a7 : w2.cell? ⟨A, 7, none⟩ = some (.bool false) := (cell_of_row _ _ 7 _ _ _ HA2.out).trans (ov_7 ..)
          have a17 : w2.cell? ⟨A, 17, none⟩ = some (.pointer none) := (cell_of_row _ _ 17 _ _ _ HA2.out).trans (ov_17 ..)
          have d0 : w2.cell? ⟨B, 0, none⟩ = some (.slice none 0 0) := (cell_of_row _ _ 0 _ _ _ HB2.out).trans (ov_0 ..)
          have d1 : w2.cell? ⟨B, 1, none⟩ = some (.nilIface) := (cell_of_row _ _ 1 _ _ _ HB2.out).trans (ov_1 ..)
          have d2 : w2.cell? ⟨B, 2, none⟩ = some (.slice none 0 0) := (cell_of_row _ _ 2 _ _ _ HB2.out).trans (ov_2 ..)
          have d3 : w2.cell? ⟨B, 3, none⟩ = some (.int .u32 0) := (cell_of_row _ _ 3 _ _ _ HB2.out).trans (ov_3 ..)
          have d4 : w2.cell? ⟨B, 4, none⟩ = some (.nilIface) := (cell_of_row _ _ 4 _ _ _ HB2.out).trans (ov_4 ..)
          have d5 : w2.cell? ⟨B, 5, none⟩ = some (.slice none 0 0) := (cell_of_row _ _ 5 _ _ _ HB2.out).trans (ov_5 ..)
          have d6 : w2.cell? ⟨B, 6, none⟩ = some (.int .u32 0) := (cell_of_row _ _ 6 _ _ _ HB2.out).trans (ov_6 ..)
          have d7 : w2.cell? ⟨B, 7, none⟩ = some (.bool false) := (cell_of_row _ _ 7 _ _ _ HB2.out).trans (ov_7 ..)
          have d17 : w2.cell? ⟨B, 17, none⟩ = some (.pointer none) := (cell_of_row _ _ 17 _ _ _ HB2.out).trans (ov_17 ..)
          go_quiet (fail)
          go_simp
          go_wp2_with fail
          have HA3 : Hid ((w2.drewN nq).heap[A]? = some (.cells (ov m r la ln lc env f g h b0 b1 b2 b3 b4 b5 b6 b7 b8 b9 b10 y) 60 (0, 0))) := HA2
          have HB3 : Hid ((w2.drewN nq).heap[B]? = some (.cells (ov m' r' la' ln' lc' env' f' g' h' b0' b1' b2' b3' b4' b5' b6' b7' b8' b9' b10' y') 60 (0, 0))) := HB2
          have HW3 : Hid (Below w.heap.size w (w2.drewN nq)) := Lib.hid (HW2.out.trans ⟨rfl, rfl, rfl, Nat.le_refl _, fun _ _ => rfl⟩)
          clear HA2 HB2 HW2
          clear a0 a1 a2 a3 a4 a5 a6 a7 a17 d0 d1 d2 d3 d4 d5 d6 d7 d17
          generalize w2.drewN nq = w3 at *
          go_loopw [121] (fun i wr => i = .int .i64 0 ∧ wr = w3) (fun _ _ => 0)
          case atStart => exact ⟨rfl, rfl⟩
          case round =>
            obtain ⟨rfl, rfl⟩ := hrel
            go_wp2_with fail
            have hA3 := lt_of_block HA3.out
            have hB3 := lt_of_block HB3.out
            have a1 := cell_grown (w := wr) (a := ⟨A, 1, none⟩) (v := .nilIface) hA3 ((cell_of_row _ _ 1 _ _ _ HA3.out).trans (ov_1 ..))
            have a2 := cell_grown (w := wr) (a := ⟨A, 2, none⟩) (v := .slice none 0 0) hA3 ((cell_of_row _ _ 2 _ _ _ HA3.out).trans (ov_2 ..))
            have a3 := cell_grown (w := wr) (a := ⟨A, 3, none⟩) (v := .int .u32 0) hA3 ((cell_of_row _ _ 3 _ _ _ HA3.out).trans (ov_3 ..))
            have a4 := cell_grown (w := wr) (a := ⟨A, 4, none⟩) (v := .nilIface) hA3 ((cell_of_row _ _ 4 _ _ _ HA3.out).trans (ov_4 ..))
            have a5 := cell_grown (w := wr) (a := ⟨A, 5, none⟩) (v := .slice none 0 0) hA3 ((cell_of_row _ _ 5 _ _ _ HA3.out).trans (ov_5 ..))
            have a6 := cell_grown (w := wr) (a := ⟨A, 6, none⟩) (v := .int .u32 0) hA3 ((cell_of_row _ _ 6 _ _ _ HA3.out).trans (ov_6 ..))
            have a7 := cell_grown (w := wr) (a := ⟨A, 7, none⟩) (v := .bool false) hA3 ((cell_of_row _ _ 7 _ _ _ HA3.out).trans (ov_7 ..))
            have d1 := cell_grown (w := wr) (a := ⟨B, 1, none⟩) (v := .nilIface) hB3 ((cell_of_row _ _ 1 _ _ _ HB3.out).trans (ov_1 ..))
            have d2 := cell_grown (w := wr) (a := ⟨B, 2, none⟩) (v := .slice none 0 0) hB3 ((cell_of_row _ _ 2 _ _ _ HB3.out).trans (ov_2 ..))
            have d3 := cell_grown (w := wr) (a := ⟨B, 3, none⟩) (v := .int .u32 0) hB3 ((cell_of_row _ _ 3 _ _ _ HB3.out).trans (ov_3 ..))
            have d4 := cell_grown (w := wr) (a := ⟨B, 4, none⟩) (v := .nilIface) hB3 ((cell_of_row _ _ 4 _ _ _ HB3.out).trans (ov_4 ..))
            have d5 := cell_grown (w := wr) (a := ⟨B, 5, none⟩) (v := .slice none 0 0) hB3 ((cell_of_row _ _ 5 _ _ _ HB3.out).trans (ov_5 ..))
            have d6 := cell_grown (w := wr) (a := ⟨B, 6, none⟩) (v := .int .u32 0) hB3 ((cell_of_row _ _ 6 _ _ _ HB3.out).trans (ov_6 ..))
            have d7 := cell_grown (w := wr) (a := ⟨B, 7, none⟩) (v := .bool false) hB3 ((cell_of_row _ _ 7 _ _ _ HB3.out).trans (ov_7 ..))
            refine wp_region_quiet_grown (by kernel_rfl) (by kernel_rfl) ?_
            repeat (go_big_quiet_step ((go_at_call 24; exact Calls.grown_of (jsx24g _))))
            refine wpQuiet_nil ?_
            intro _ hw'
            obtain ⟨⟨nq4, osq⟩, hw''⟩ := hw'
            subst hw''
            clear a1 a2 a3 a4 a5 a6 a7 d1 d2 d3 d4 d5 d6 d7
            have HA4 : Hid ((Sort.grow (wr.drewN nq4) osq).heap[A]? = some (.cells (ov m r la ln lc env f g h b0 b1 b2 b3 b4 b5 b6 b7 b8 b9 b10 y) 60 (0, 0))) := Lib.hid ((Sort.heap_grow_old (wr.drewN nq4) osq hA3).trans HA3.out)
            have HB4 : Hid ((Sort.grow (wr.drewN nq4) osq).heap[B]? = some (.cells (ov m' r' la' ln' lc' env' f' g' h' b0' b1' b2' b3' b4' b5' b6' b7' b8' b9' b10' y') 60 (0, 0))) := Lib.hid ((Sort.heap_grow_old (wr.drewN nq4) osq hB3).trans HB3.out)
            have HW4 : Hid (Below w.heap.size w (Sort.grow (wr.drewN nq4) osq)) := Lib.hid (HW3.out.trans (below_grow _ _ _ _ HW3.out.size))
            clear HA3 HB3 HW3 hA3 hB3
            generalize Sort.grow (wr.drewN nq4) osq = w4 at *
            go_simp
            go_wp2_with fail
            have a17 : w4.cell? ⟨A, 17, none⟩ = some (.pointer none) := (cell_of_row _ _ 17 _ _ _ HA4.out).trans (ov_17 ..)
            have d17 : w4.cell? ⟨B, 17, none⟩ = some (.pointer none) := (cell_of_row _ _ 17 _ _ _ HB4.out).trans (ov_17 ..)
            go_quiet (fail)
            clear a17 d17
            go_simp
            go_wp2_with fail
            go_ret
            exact ⟨by (show Ending.returned (.bool true) = _); (first | rw [HE.out, E1.out, E2.out] | rw [E1.out, E2.out]); rfl, HW4.out.trans ⟨rfl, rfl, rfl, Nat.le_refl _, fun _ _ => rfl⟩⟩
end Go.Proofs.Ytbebfpmnekbldaa.op
