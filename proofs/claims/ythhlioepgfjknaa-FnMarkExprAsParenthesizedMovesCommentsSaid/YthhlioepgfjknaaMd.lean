/-
  Comments: an expression is marked as parenthesized.
-/
import Derived.Test.YthhlioepgfjknaaMc
import Derived.StillTailTactics
import Derived.Deep.AppendLies

namespace Go.Proofs.Ythhlioepgfjknaa.ma
open Go.ChangeShapes Go.WideShapes Go.ChangeAt Go.RowKit Go.Deep Go.Proofs.Ythhlioepgfjknaa.mk
set_option linter.unusedVariables false
set_option linter.unusedSimpArgs false
set_option maxRecDepth 100000
set_option maxHeartbeats 4000000
/-- But for the blocks F, what was there is as it was. -/
structure Touch (F : Nat → Prop) (w w' : World) : Prop where
  os : w'.os = w.os
  tape : w'.tape = w.tape
  output : w'.output = w.output
  size : w.heap.size ≤ w'.heap.size
  block : ∀ k, k < w.heap.size → ¬ F k → w'.heap[k]? = w.heap[k]?
theorem Touch.refl (F : Nat → Prop) (w : World) : Touch F w w := ⟨rfl, rfl, rfl, Nat.le_refl _, fun _ _ _ => rfl⟩
theorem Touch.trans {F : Nat → Prop} {a b c : World} (h : Touch F a b) (k : Touch F b c) : Touch F a c :=
  ⟨k.os.trans h.os, k.tape.trans h.tape, k.output.trans h.output, Nat.le_trans h.size k.size, fun i hi hn => (k.block i (Nat.lt_of_lt_of_le hi h.size) hn).trans (h.block i hi hn)⟩
theorem Touch.mono {F G : Nat → Prop} {w w' : World} (h : Touch F w w') (e : ∀ k, k < w.heap.size → F k → G k) : Touch G w w' := ⟨h.os, h.tape, h.output, h.size, fun k hk hn => h.block k hk fun f => hn (e k hk f)⟩
theorem Touch.drew {F : Nat → Prop} {a w : World} (h : Touch F a w) : Touch F a w.drew := ⟨h.os, h.tape, h.output, h.size, h.block⟩
theorem Touch.alloc {F : Nat → Prop} {a w : World} (h : Touch F a w) (o : Obj) : Touch F a (w.alloc o) :=
  h.trans ⟨rfl, rfl, rfl, by simp, fun k hk _ => Below.heap_alloc _ _ _ hk⟩
theorem Touch.setCell {F : Nat → Prop} {a w : World} (h : Touch F a w) (p : Addr) (hp : p.block < a.heap.size → F p.block) (u : Value) : Touch F a (w.setCell p u) :=
  ⟨h.os, h.tape, h.output, by rw [show (w.setCell p u).heap.size = w.heap.size by simp [World.setCell]]; exact h.size, fun k hk hn => (Below.heap_setCell _ _ _ _ (fun e => hn (by rw [e]; exact hp (by rw [← e]; exact hk)))).trans (h.block k hk hn)⟩
theorem Touch.grown {F : Nat → Prop} {a w w' : World} {row : Option Nat} (h : Touch F a w) (hg : w.grownBy w' row) (hr : ∀ k, row = some k → k < a.heap.size → F k) : Touch F a w' :=
  ⟨hg.os.trans h.os, hg.tape.trans h.tape, hg.output.trans h.output, Nat.le_trans h.size hg.size, fun k hk hn => (hg.block k (Nat.lt_of_lt_of_le hk h.size) (fun e => hn (hr k e.symm hk))).trans (h.block k hk hn)⟩
theorem Touch.below {F : Nat → Prop} {w w' : World} (h : Touch F w w') {B : Nat} (hB : B ≤ w.heap.size) (hF : ∀ k, F k → B ≤ k) : Below B w w' :=
  ⟨h.os, h.tape, h.output, h.size, fun k hk => h.block k (by omega) (fun f => by have := hF k f; omega)⟩
theorem Touch.of_below {w w' : World} (h : Below w.heap.size w w') (F : Nat → Prop) : Touch F w w' := ⟨h.os, h.tape, h.output, h.size, fun k hk _ => h.block k hk⟩
theorem Touch.then {F : Nat → Prop} {a w w' : World} (h : Touch F a w) (hb : Below w.heap.size w w') : Touch F a w' := ⟨hb.os.trans h.os, hb.tape.trans h.tape, hb.output.trans h.output, Nat.le_trans h.size hb.size, fun k hk hn => (hb.block k (Nat.lt_of_lt_of_le hk h.size)).trans (h.block k hk hn)⟩
theorem onlyB_touch {b : Nat} {w w' : World} (h : OnlyB b w w') : Touch (fun j => j = b) w w' := ⟨h.os, h.tape, h.output, by rw [h.size]; exact Nat.le_refl _, fun k _ hn => h.block k hn⟩
@[go_sem] theorem as26_200_yes (v : Value) (w : World) : (Instr.typeAssert (.iface 200 v) 26 200 true).run Try.prog w = .ok (.tuple #[v, .bool true]) w := by kernel_rfl
@[go_sem] theorem as26_200_nil (w : World) : (Instr.typeAssert .nilIface 26 200 true).run Try.prog w = .ok (.tuple #[.pointer none, .bool false]) w := by kernel_rfl
theorem as26_200_zero (w : World) : (do pure (Value.tuple #[← zeroValue 200, .bool false]) : Sem Value).run Try.prog w = .ok (.tuple #[.pointer none, .bool false]) w := by kernel_rfl
@[go_sem] theorem as26_200_no (u : TypeId) (v : Value) (w : World) (h : u ≠ 200) : (Instr.typeAssert (.iface u v) 26 200 true).run Try.prog w = .ok (.tuple #[.pointer none, .bool false]) w := by
  have e : (Instr.typeAssert (.iface u v) 26 200 true).run Try.prog w = (if u = 200 then (pure (Value.tuple #[v, .bool true]) : Sem Value) else (do pure (Value.tuple #[← zeroValue 200, .bool false]))).run Try.prog w := by kernel_rfl
  rw [e, if_neg h]
  exact as26_200_zero w
@[go_sem] theorem as26_228_yes (v : Value) (w : World) : (Instr.typeAssert (.iface 228 v) 26 228 true).run Try.prog w = .ok (.tuple #[v, .bool true]) w := by kernel_rfl
@[go_sem] theorem as26_228_nil (w : World) : (Instr.typeAssert .nilIface 26 228 true).run Try.prog w = .ok (.tuple #[.pointer none, .bool false]) w := by kernel_rfl
theorem as26_228_zero (w : World) : (do pure (Value.tuple #[← zeroValue 228, .bool false]) : Sem Value).run Try.prog w = .ok (.tuple #[.pointer none, .bool false]) w := by kernel_rfl
@[go_sem] theorem as26_228_no (u : TypeId) (v : Value) (w : World) (h : u ≠ 228) : (Instr.typeAssert (.iface u v) 26 228 true).run Try.prog w = .ok (.tuple #[.pointer none, .bool false]) w := by
  have e : (Instr.typeAssert (.iface u v) 26 228 true).run Try.prog w = (if u = 228 then (pure (Value.tuple #[v, .bool true]) : Sem Value) else (do pure (Value.tuple #[← zeroValue 228, .bool false]))).run Try.prog w := by kernel_rfl
  rw [e, if_neg h]
  exact as26_228_zero w
@[go_sem] theorem as26_232_yes (v : Value) (w : World) : (Instr.typeAssert (.iface 232 v) 26 232 true).run Try.prog w = .ok (.tuple #[v, .bool true]) w := by kernel_rfl
@[go_sem] theorem as26_232_nil (w : World) : (Instr.typeAssert .nilIface 26 232 true).run Try.prog w = .ok (.tuple #[.pointer none, .bool false]) w := by kernel_rfl
theorem as26_232_zero (w : World) : (do pure (Value.tuple #[← zeroValue 232, .bool false]) : Sem Value).run Try.prog w = .ok (.tuple #[.pointer none, .bool false]) w := by kernel_rfl
@[go_sem] theorem as26_232_no (u : TypeId) (v : Value) (w : World) (h : u ≠ 232) : (Instr.typeAssert (.iface u v) 26 232 true).run Try.prog w = .ok (.tuple #[.pointer none, .bool false]) w := by
  have e : (Instr.typeAssert (.iface u v) 26 232 true).run Try.prog w = (if u = 232 then (pure (Value.tuple #[v, .bool true]) : Sem Value) else (do pure (Value.tuple #[← zeroValue 232, .bool false]))).run Try.prog w := by kernel_rfl
  rw [e, if_neg h]
  exact as26_232_zero w
@[go_sem] theorem as26_244_yes (v : Value) (w : World) : (Instr.typeAssert (.iface 244 v) 26 244 true).run Try.prog w = .ok (.tuple #[v, .bool true]) w := by kernel_rfl
@[go_sem] theorem as26_244_nil (w : World) : (Instr.typeAssert .nilIface 26 244 true).run Try.prog w = .ok (.tuple #[.pointer none, .bool false]) w := by kernel_rfl
theorem as26_244_zero (w : World) : (do pure (Value.tuple #[← zeroValue 244, .bool false]) : Sem Value).run Try.prog w = .ok (.tuple #[.pointer none, .bool false]) w := by kernel_rfl
@[go_sem] theorem as26_244_no (u : TypeId) (v : Value) (w : World) (h : u ≠ 244) : (Instr.typeAssert (.iface u v) 26 244 true).run Try.prog w = .ok (.tuple #[.pointer none, .bool false]) w := by
  have e : (Instr.typeAssert (.iface u v) 26 244 true).run Try.prog w = (if u = 244 then (pure (Value.tuple #[v, .bool true]) : Sem Value) else (do pure (Value.tuple #[← zeroValue 244, .bool false]))).run Try.prog w := by kernel_rfl
  rw [e, if_neg h]
  exact as26_244_zero w
@[go_sem] theorem as26_247_yes (v : Value) (w : World) : (Instr.typeAssert (.iface 247 v) 26 247 true).run Try.prog w = .ok (.tuple #[v, .bool true]) w := by kernel_rfl
@[go_sem] theorem as26_247_nil (w : World) : (Instr.typeAssert .nilIface 26 247 true).run Try.prog w = .ok (.tuple #[.pointer none, .bool false]) w := by kernel_rfl
theorem as26_247_zero (w : World) : (do pure (Value.tuple #[← zeroValue 247, .bool false]) : Sem Value).run Try.prog w = .ok (.tuple #[.pointer none, .bool false]) w := by kernel_rfl
@[go_sem] theorem as26_247_no (u : TypeId) (v : Value) (w : World) (h : u ≠ 247) : (Instr.typeAssert (.iface u v) 26 247 true).run Try.prog w = .ok (.tuple #[.pointer none, .bool false]) w := by
  have e : (Instr.typeAssert (.iface u v) 26 247 true).run Try.prog w = (if u = 247 then (pure (Value.tuple #[v, .bool true]) : Sem Value) else (do pure (Value.tuple #[← zeroValue 247, .bool false]))).run Try.prog w := by kernel_rfl
  rw [e, if_neg h]
  exact as26_247_zero w
/-- The cells of a literal of type 196: the named fields as given, all else zero. -/
noncomputable def pz (b : Nat) : Array Value := (Try.prog.built 196 [(16, .map (some b))]).getD #[]
theorem pz_built (b : Nat) : Try.prog.built 196 [(16, .map (some b))] = some (pz b) := by kernel_rfl
theorem pz_wp {o : Oper} {a : Act} {w : World} {K : Act → World → Prop} {Q : Exit → Act → World → Prop} (x0 : Operand) (ho : o.op = .build 196 #[(16, x0)]) (b : Nat) (h0 : a.eval x0 = .map (some b))
    (h : K (a.put o.dst (.agg (pz b))) w) : o.wp Try.prog a w K Q := by
  refine wp_build 196 _ ho ?_ ?_
  · simp only [List.map_toArray, List.map_cons, List.map_nil, pz_built, h0]; rfl
  · simp only [List.map_toArray, List.map_cons, List.map_nil, pz_built, h0, Option.getD_some]; exact h


abbrev ex (T b : Nat) (l : Int) : Value := .agg #[.iface T (.pointer (some ⟨b, 0, none⟩)), .int .i32 l]
abbrev lk (l : Int) : Value := .agg #[.int .i32 l]
theorem lkKey (l : Int) : LocKey (lk l) := ⟨l, rfl⟩
theorem zero37 (w : World) : (zeroValue 37).run Try.prog w = .ok (.slice none 0 0) w := by kernel_rfl
theorem mark_async (w : World) (p : Addr) (eb : Nat) (lb la : Int) : Calls Try.prog 32 #[.pointer (some p), ex 42 eb lb, lk la, .bool true] w fun e w' => e = .returned (.tuple #[]) ∧ Below w.heap.size w w' := by
  go_enter Try.func32, Try.ntmps32
  go_wp2_with fail
  go_end0
  exact ⟨rfl, ((Below.refl _ _).alloc (Nat.le_refl _) _).alloc (by simp) _⟩
theorem mark_none (w : World) (p b : Nat) (eb : Nat) (lb la : Int) (N : Nat) (M : Value → Option Value) (hm : MapIs w b LocKey N M) (hk : M (lk la) = none) (hp : w.cell? ⟨p, 113, none⟩ = some (.map (some b))) : Calls Try.prog 32 #[.pointer (some ⟨p, 0, none⟩), ex 42 eb lb, lk la, .bool false] w fun e w' => e = .returned (.tuple #[]) ∧ Below w.heap.size w w' := by
  go_enter Try.func32, Try.ntmps32
  go_upto_region 2 with (fail)
  have hW : Below w.heap.size w ((w.alloc (Obj.cells #[Value.iface 42 (Value.pointer (some { block := eb, off := 0 })), Value.int IntKind.i32 lb] 30)).alloc (Obj.cells #[Value.int IntKind.i32 la] 28)) := ((Below.refl _ _).alloc (Nat.le_refl _) _).alloc (by simp) _
  have c0 := (hW.cell (p := ⟨p, 113, none⟩) (block_lt_of_cell hp)).trans hp
  have c1 : ((w.alloc (Obj.cells #[Value.iface 42 (Value.pointer (some { block := eb, off := 0 })), Value.int IntKind.i32 lb] 30)).alloc (Obj.cells #[Value.int IntKind.i32 la] 28)).cell? ⟨w.heap.size + 1, 0, none⟩ = some (.int .i32 la) := by simp
  have c2 : ((w.alloc (Obj.cells #[Value.iface 42 (Value.pointer (some { block := eb, off := 0 })), Value.int IntKind.i32 lb] 30)).alloc (Obj.cells #[Value.int IntKind.i32 la] 28)).cell? ⟨w.heap.size, 0, none⟩ = some (.iface 42 (.pointer (some ⟨eb, 0, none⟩))) := by simp
  have c3 : ((w.alloc (Obj.cells #[Value.iface 42 (Value.pointer (some { block := eb, off := 0 })), Value.int IntKind.i32 lb] 30)).alloc (Obj.cells #[Value.int IntKind.i32 la] 28)).cell? ⟨w.heap.size, 1, none⟩ = some (.int .i32 lb) := by simp
  have m1 := hm.below hW hm.lt
  have hbl := hm.lt
  have hpl : p < w.heap.size := block_lt_of_cell hp
  generalize (w.alloc (Obj.cells #[Value.iface 42 (Value.pointer (some { block := eb, off := 0 })), Value.int IntKind.i32 lb] 30)).alloc (Obj.cells #[Value.int IntKind.i32 la] 28) = W1 at *
  have HW := Lib.hid hW
  clear hW
  have l1 : ∀ n, (Instr.lookup 40 (.map (some b)) (lk la) true).run Try.prog (W1.drewN n) = .ok (.tuple #[.slice none 0 0, .bool false]) (W1.drewN n) := fun n => by
    have l1 := (m1.of_block (w' := W1.drewN n) (by simp)).look (locKey _) Try.underlying40 (zero37 _) (lkKey la) true
    rw [hk] at l1
    exact l1
  clear hm m1
  go_quiet (fail)
  have HW2 : Hid (Below w.heap.size w (W1.drewN nq)) := Lib.hid ⟨HW.out.os, HW.out.tape, HW.out.output, HW.out.size, HW.out.block⟩
  replace c2 : (W1.drewN nq).cell? ⟨w.heap.size, 0, none⟩ = _ := c2
  replace c3 : (W1.drewN nq).cell? ⟨w.heap.size, 1, none⟩ = _ := c3
  clear c0 c1 l1 HW
  generalize W1.drewN nq = W2 at *
  go_wp2_with fail
  go_end0
  exact ⟨rfl, HW2.out⟩
theorem step_append {P : Program} {ops : Array Oper} {o : Oper} {a : Act} {w : World} {K : Act → World → Prop} {Q : Exit → Act → World → Prop} {E : Prop} (hgd : o.guard = none) (m x : Operand) (t k ty : TypeId)
    (ho : o.op = .call { callee := .builtin .append, args := #[m, x], argTypes := #[t, k] }) (hty : o.type = ty) (vm vx : Value) (hm : a.eval m = vm) (hx : a.eval x = vx) (v : Value) (w' : World)
    (hrun : (Builtin.append_ #[t, k] ty #[vm, vx]).run P w = .ok v w') (h : K (a.put o.dst v) w') :
    if Region.wanted o (yielded ops a.tmps) = true then Oper.wp P o a w K Q else E := by
  have hw : Region.wanted o (yielded ops a.tmps) = true := by simp [Region.wanted, hgd]
  rw [if_pos hw]
  unfold Oper.wp
  subst hty
  simp [execOp, ho, resolve, invoke, builtin, hm, hx, hrun, Result.andThen]
  exact h
/-- A row of another block than b. -/
theorem Row.touch {w w' : World} {a : Option Addr} {n b : Nat} {V : Nat → Value} (h : Row w a n V) (ht : Touch (fun k => k = b) w w') (hb : ∀ x, a = some x → x.block ≠ b) : Row w' a n V := by
  intro h0
  obtain ⟨g, off, rfl, hc⟩ := h h0
  refine ⟨g, off, rfl, fun i hi => ?_⟩
  have h1 := hc i hi
  exact (World.cell?_of_block (a := ⟨g, off + i, none⟩) (ht.block g (block_lt_of_cell (a := ⟨g, off + i, none⟩) h1) (hb _ rfl))).trans h1
theorem mark_some (w : World) (p b : Nat) (eb : Nat) (lb la : Int) (N : Nat) (M : Value → Option Value) (hm : MapIs w b LocKey N M) (a : Option Addr) (n : Nat) (z : Nat → ByteArray) (hk : M (lk la) = some (.slice a n n)) (hr : Row w a n (fun i => .string (z i))) (ha : a = none → n = 0)
    (g : Option Addr) (m c : Nat) (y : Nat → ByteArray) (hg : (del M (lk la) (lk lb)).getD (.slice none 0 0) = .slice g m c) (hy : Row w g m (fun i => .string (y i))) (hgn : g = none → m = 0) (hn : n + m ≤ 1048576)
    (hab : ∀ x, a = some x → x.block ≠ b) (hgb : ∀ x, g = some x → x.block ≠ b) (hp : w.cell? ⟨p, 113, none⟩ = some (.map (some b))) (hpb : p ≠ b) (N' : Nat) (hN' : (if (del M (lk la) (lk lb)).isSome then N - 1 else N - 1 + 1) = N') : Calls Try.prog 32 #[.pointer (some ⟨p, 0, none⟩), ex 42 eb lb, lk la, .bool false] w fun e w' => e = .returned (.tuple #[]) ∧ Touch (fun k => k = b) w w' ∧
      ∃ v', Rs w' v' (n + m) (cat z n y) ∧ MapIs w' b LocKey N' (upd (del M (lk la)) (lk lb) v') := by
  have HN := Lib.hid hN'
  clear hN'
  go_enter Try.func32, Try.ntmps32
  go_upto_region 2 with (fail)
  have hW : Below w.heap.size w ((w.alloc (Obj.cells #[Value.iface 42 (Value.pointer (some { block := eb, off := 0 })), Value.int IntKind.i32 lb] 30)).alloc (Obj.cells #[Value.int IntKind.i32 la] 28)) := ((Below.refl _ _).alloc (Nat.le_refl _) _).alloc (by simp) _
  have c0 := (hW.cell (p := ⟨p, 113, none⟩) (block_lt_of_cell hp)).trans hp
  have c1 : ((w.alloc (Obj.cells #[Value.iface 42 (Value.pointer (some { block := eb, off := 0 })), Value.int IntKind.i32 lb] 30)).alloc (Obj.cells #[Value.int IntKind.i32 la] 28)).cell? ⟨w.heap.size + 1, 0, none⟩ = some (.int .i32 la) := by simp
  have c2 : ((w.alloc (Obj.cells #[Value.iface 42 (Value.pointer (some { block := eb, off := 0 })), Value.int IntKind.i32 lb] 30)).alloc (Obj.cells #[Value.int IntKind.i32 la] 28)).cell? ⟨w.heap.size, 0, none⟩ = some (.iface 42 (.pointer (some ⟨eb, 0, none⟩))) := by simp
  have c3 : ((w.alloc (Obj.cells #[Value.iface 42 (Value.pointer (some { block := eb, off := 0 })), Value.int IntKind.i32 lb] 30)).alloc (Obj.cells #[Value.int IntKind.i32 la] 28)).cell? ⟨w.heap.size, 1, none⟩ = some (.int .i32 lb) := by simp
  have m1 := hm.below hW hm.lt
  have hbl := hm.lt
  have hpl : p < w.heap.size := block_lt_of_cell hp
  generalize (w.alloc (Obj.cells #[Value.iface 42 (Value.pointer (some { block := eb, off := 0 })), Value.int IntKind.i32 lb] 30)).alloc (Obj.cells #[Value.int IntKind.i32 la] 28) = W1 at *
  have HW := Lib.hid hW
  clear hW
  have l1 : ∀ n', (Instr.lookup 40 (.map (some b)) (lk la) true).run Try.prog (W1.drewN n') = .ok (.tuple #[.slice a n n, .bool true]) (W1.drewN n') := fun n' => by
    have l1 := (m1.of_block (w' := W1.drewN n') (by simp)).look (locKey _) Try.underlying40 (zero37 _) (lkKey la) true
    rw [hk] at l1
    exact l1
  have M1 := Lib.hid m1
  clear hm m1
  go_quiet (fail)
  have HW2 : Hid (Below w.heap.size w (W1.drewN nq)) := Lib.hid ⟨HW.out.os, HW.out.tape, HW.out.output, HW.out.size, HW.out.block⟩
  replace c0 : (W1.drewN nq).cell? ⟨p, 113, none⟩ = _ := c0
  replace c1 : (W1.drewN nq).cell? ⟨w.heap.size + 1, 0, none⟩ = _ := c1
  replace c2 : (W1.drewN nq).cell? ⟨w.heap.size, 0, none⟩ = _ := c2
  replace c3 : (W1.drewN nq).cell? ⟨w.heap.size, 1, none⟩ = _ := c3
  have M2 : Hid (MapIs (W1.drewN nq) b LocKey N M) := Lib.hid (M1.out.of_block (by simp))
  clear l1 HW M1
  generalize W1.drewN nq = W2 at *
  go_upto_region 4 with (fail)
  go_still_tail 5, (by kernel_rfl)
  change wpList _ _ _ _ _ W2.drew
  replace c0 : W2.drew.cell? ⟨p, 113, none⟩ = _ := c0
  replace c1 : W2.drew.cell? ⟨w.heap.size + 1, 0, none⟩ = _ := c1
  replace c2 : W2.drew.cell? ⟨w.heap.size, 0, none⟩ = _ := c2
  replace c3 : W2.drew.cell? ⟨w.heap.size, 1, none⟩ = _ := c3
  have HW3 : Hid (Below w.heap.size w W2.drew) := Lib.hid HW2.out.drew
  obtain ⟨W4, hdel, hM4, hO4⟩ := M2.out.drew.drop (locKey W2.drew) Try.underlying40 (lkKey la) 28 0
  rw [hk] at hM4
  simp only [Option.isSome_some, if_true] at hM4
  have M4 := Lib.hid hM4
  have O4 := Lib.hid (onlyB_touch hO4)
  clear hM4 M2 HW2
  generalize W2.drew = W3 at *
  have d0 := (hO4.cell (p := ⟨p, 113, none⟩) hpb).trans c0
  have d2 := (hO4.cell (p := ⟨w.heap.size, 0, none⟩) (by show w.heap.size ≠ b; omega)).trans c2
  have d3 := (hO4.cell (p := ⟨w.heap.size, 1, none⟩) (by show w.heap.size ≠ b; omega)).trans c3
  clear hO4
  go_upto_region 5 with (fail)
  clear hdel c0 c1 c2 c3
  have T4 : Hid (Touch (fun k => k = b) w W4) := Lib.hid ((Touch.of_below HW3.out _).trans O4.out)
  have hr4 : Row W4.drew a n (fun i => .string (z i)) := hr.touch T4.out.drew hab
  have hy4 : Row W4.drew g m (fun i => .string (y i)) := hy.touch T4.out.drew hgb
  obtain ⟨v', W5, happ, hv', hB5, hblk⟩ := app0 W4.drew a g n m c z y hr4 ha hy4 hgn hn
  have hM5 := M4.out.drew.below hB5 M4.out.lt
  obtain ⟨W6, hup, hM6, hO6⟩ := hM5.put (locKey W5) Try.underlying40 (lkKey lb) v'
  rw [HN.out] at hM6
  have hb6 := onlyB_touch hO6
  have V6 : Hid (Rs W6 v' (n + m) (cat z n y)) := Lib.hid (by
    obtain ⟨a', c', rfl, q1, q2⟩ := hv'
    refine ⟨a', c', rfl, q1.touch hb6 fun x hx => ?_, q2⟩
    subst hx
    rcases hblk x _ _ rfl with h | h
    · exact hab x h
    · have h1 := T4.out.size
      have h2 : W4.drew.heap.size = W4.heap.size := rfl
      omega)
  have l1 : (Instr.lookup 40 (.map (some b)) (lk lb) false).run Try.prog W4.drew = .ok (.slice g m c) W4.drew := by
    have l1 := M4.out.drew.look (locKey W4.drew) Try.underlying40 (zero37 W4.drew) (lkKey lb) false
    rw [hg] at l1
    exact l1
  have f0 : W5.cell? ⟨p, 113, none⟩ = some (.map (some b)) := (hB5.cell (p := ⟨p, 113, none⟩) (block_lt_of_cell d0)).trans d0
  have f2 : W5.cell? ⟨w.heap.size, 0, none⟩ = some (.iface 42 (.pointer (some ⟨eb, 0, none⟩))) := (hB5.cell (p := ⟨w.heap.size, 0, none⟩) (block_lt_of_cell d2)).trans d2
  have f3 : W5.cell? ⟨w.heap.size, 1, none⟩ = some (.int .i32 lb) := (hB5.cell (p := ⟨w.heap.size, 1, none⟩) (block_lt_of_cell d3)).trans d3
  have F2 := Lib.hid ((hO6.cell (p := ⟨w.heap.size, 0, none⟩) (by show w.heap.size ≠ b; omega)).trans f2)
  have F3 := Lib.hid ((hO6.cell (p := ⟨w.heap.size, 1, none⟩) (by show w.heap.size ≠ b; omega)).trans f3)
  have M6 := Lib.hid hM6
  have T6 : Hid (Touch (fun k => k = b) w W6) := Lib.hid ((T4.out.drew.trans (Touch.of_below hB5 _)).trans hb6)
  clear hM6 hO6 hb6 hM5 hB5 hv' hr4 hy4 O4 M4 hblk
  go_region_law (first | (refine step_append rfl (.tmp 38) (.tmp 45) 37 37 37 rfl rfl (.slice a n n) (.slice g m c) rfl rfl v' W5 happ ?_))
  all_goals
    have f2' := F2.out
    have f3' := F3.out
    clear happ hup l1 f0 f2 f3 d0 d2 d3
    go_wp2_with fail
    go_end0
    exact ⟨rfl, T6.out, _, V6.out, M6.out⟩
end Go.Proofs.Ythhlioepgfjknaa.ma
