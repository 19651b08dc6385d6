/-
  Options: two of them are compared.
-/
import Derived.Test.YtbebfpmnekbldaaOa
import Derived.Laws.StructEq

namespace Go.Proofs.Ytbebfpmnekbldaa.op
open Go.ChangeShapes Go.WideShapes Go.ChangeAt Go.RowKit Go.Deep
set_option linter.unusedVariables false
set_option linter.unusedSimpArgs false
/-- The cells of a literal of type 58: the named fields as given, all else zero. -/
noncomputable def sv (env : ByteArray) (f : Int) (g : Int) (h : Int) (b0 : Bool) (b1 : Bool) (b2 : Bool) (b3 : Bool) (b4 : Bool) (b5 : Bool) (b6 : Bool) (b7 : Bool) (b8 : Bool) (b9 : Bool) (b10 : Bool) (y : Bool) : Array Value := (Try.prog.built 58 [(0, .string env), (2, .int .u64 f), (3, .int .u64 g), (4, .int .u64 h), (11, .bool b0), (12, .bool b1), (13, .bool b2), (14, .bool b3), (15, .bool b4), (16, .bool b5), (17, .bool b6), (18, .bool b7), (19, .bool b8), (20, .bool b9), (21, .bool b10), (22, .bool y)]).getD #[]
theorem sv_built (env : ByteArray) (f : Int) (g : Int) (h : Int) (b0 : Bool) (b1 : Bool) (b2 : Bool) (b3 : Bool) (b4 : Bool) (b5 : Bool) (b6 : Bool) (b7 : Bool) (b8 : Bool) (b9 : Bool) (b10 : Bool) (y : Bool) : Try.prog.built 58 [(0, .string env), (2, .int .u64 f), (3, .int .u64 g), (4, .int .u64 h), (11, .bool b0), (12, .bool b1), (13, .bool b2), (14, .bool b3), (15, .bool b4), (16, .bool b5), (17, .bool b6), (18, .bool b7), (19, .bool b8), (20, .bool b9), (21, .bool b10), (22, .bool y)] = some (sv env f g h b0 b1 b2 b3 b4 b5 b6 b7 b8 b9 b10 y) := by kernel_rfl
theorem sv_wp {o : Oper} {a : Act} {w : World} {K : Act → World → Prop} {Q : Exit → Act → World → Prop} (x0 : Operand) (x1 : Operand) (x2 : Operand) (x3 : Operand) (x4 : Operand) (x5 : Operand) (x6 : Operand) (x7 : Operand) (x8 : Operand) (x9 : Operand) (x10 : Operand) (x11 : Operand) (x12 : Operand) (x13 : Operand) (x14 : Operand) (x15 : Operand) (ho : o.op = .build 58 #[(0, x0), (2, x1), (3, x2), (4, x3), (11, x4), (12, x5), (13, x6), (14, x7), (15, x8), (16, x9), (17, x10), (18, x11), (19, x12), (20, x13), (21, x14), (22, x15)]) (env : ByteArray) (f : Int) (g : Int) (h : Int) (b0 : Bool) (b1 : Bool) (b2 : Bool) (b3 : Bool) (b4 : Bool) (b5 : Bool) (b6 : Bool) (b7 : Bool) (b8 : Bool) (b9 : Bool) (b10 : Bool) (y : Bool) (h0 : a.eval x0 = .string env) (h1 : a.eval x1 = .int .u64 f) (h2 : a.eval x2 = .int .u64 g) (h3 : a.eval x3 = .int .u64 h) (h4 : a.eval x4 = .bool b0) (h5 : a.eval x5 = .bool b1) (h6 : a.eval x6 = .bool b2) (h7 : a.eval x7 = .bool b3) (h8 : a.eval x8 = .bool b4) (h9 : a.eval x9 = .bool b5) (h10 : a.eval x10 = .bool b6) (h11 : a.eval x11 = .bool b7) (h12 : a.eval x12 = .bool b8) (h13 : a.eval x13 = .bool b9) (h14 : a.eval x14 = .bool b10) (h15 : a.eval x15 = .bool y)
    (h : K (a.put o.dst (.agg (sv env f g h b0 b1 b2 b3 b4 b5 b6 b7 b8 b9 b10 y))) w) : o.wp Try.prog a w K Q := by
  refine wp_build 58 _ ho ?_ ?_
  · simp only [List.map_toArray, List.map_cons, List.map_nil, sv_built, h0, h1, h2, h3, h4, h5, h6, h7, h8, h9, h10, h11, h12, h13, h14, h15]; rfl
  · simp only [List.map_toArray, List.map_cons, List.map_nil, sv_built, h0, h1, h2, h3, h4, h5, h6, h7, h8, h9, h10, h11, h12, h13, h14, h15, Option.getD_some]; exact h


set_option maxRecDepth 100000
set_option maxHeartbeats 4000000
theorem stepF {d t off i : Nat} {xs ys : Array Value} {a b : Value} {r r' : Bool} {w : World} (hf : ((Try.prog.fieldsOf 58).toList[i]?).map (fun f => (f.name != "_", f.type, f.offset)) = some (true, t, off))
    (ha : (part t xs off).run Try.prog w = .ok a w) (hb : (part t ys off).run Try.prog w = .ok b w) (he : (Op.equalIn d t a b).run Try.prog w = .ok r w)
    (hr : (Op.eqFields d xs ys ((Try.prog.fieldsOf 58).toList.drop (i + 1))).run Try.prog w = .ok r' w) : (Op.eqFields d xs ys ((Try.prog.fieldsOf 58).toList.drop i)).run Try.prog w = .ok (r && r') w := by
  obtain ⟨f, hf1, hf2⟩ := Option.map_eq_some_iff.1 hf
  obtain ⟨hlt, hfe⟩ := List.getElem?_eq_some_iff.1 hf1
  rw [List.drop_eq_getElem_cons hlt, hfe]
  simp only [Prod.mk.injEq, bne_iff_ne] at hf2
  obtain ⟨hn, rfl, rfl⟩ := hf2
  rw [Op.eqFields, if_pos hn]
  simp only [Sem.run_bind, ha, hb, he, Result.andThen_ok]
  cases r
  · simp
  · simpa using hr
theorem eqS (env : ByteArray) (f g h : Int) (b0 b1 b2 b3 b4 b5 b6 b7 b8 b9 b10 y : Bool) (env' : ByteArray) (f' g' h' : Int) (b0' b1' b2' b3' b4' b5' b6' b7' b8' b9' b10' y' : Bool) (w : World) : (Op.equalIn 10000 58 (.agg (sv env f g h b0 b1 b2 b3 b4 b5 b6 b7 b8 b9 b10 y)) (.agg (sv env' f' g' h' b0' b1' b2' b3' b4' b5' b6' b7' b8' b9' b10' y'))).run Try.prog w = .ok (env == env' && f == f' && g == g' && h == h' && b0 == b0' && b1 == b1' && b2 == b2' && b3 == b3' && b4 == b4' && b5 == b5' && b6 == b6' && b7 == b7' && b8 == b8' && b9 == b9' && b10 == b10' && y == y') w := by
  rw [run_equalIn_struct _ 9999 _ _ _ (by kernel_rfl) (by kernel_rfl)]
  have eEnd : (Op.eqFields 9999 (sv env f g h b0 b1 b2 b3 b4 b5 b6 b7 b8 b9 b10 y) (sv env' f' g' h' b0' b1' b2' b3' b4' b5' b6' b7' b8' b9' b10' y') ((Try.prog.fieldsOf 58).toList.drop 23)).run Try.prog w = .ok true w := by kernel_rfl
  have e22 := stepF (xs := sv env f g h b0 b1 b2 b3 b4 b5 b6 b7 b8 b9 b10 y) (ys := sv env' f' g' h' b0' b1' b2' b3' b4' b5' b6' b7' b8' b9' b10' y') (w := w) (d := 9999) (t := 4) (off := 32) (i := 22) (by kernel_rfl) (a := .bool y) (b := .bool y') (by kernel_rfl) (by kernel_rfl) (run_equalIn_bool' _ _ _ _ _ Try.underlying4) eEnd
  have e21 := stepF (xs := sv env f g h b0 b1 b2 b3 b4 b5 b6 b7 b8 b9 b10 y) (ys := sv env' f' g' h' b0' b1' b2' b3' b4' b5' b6' b7' b8' b9' b10' y') (w := w) (d := 9999) (t := 4) (off := 31) (i := 21) (by kernel_rfl) (a := .bool b10) (b := .bool b10') (by kernel_rfl) (by kernel_rfl) (run_equalIn_bool' _ _ _ _ _ Try.underlying4) e22
  have e20 := stepF (xs := sv env f g h b0 b1 b2 b3 b4 b5 b6 b7 b8 b9 b10 y) (ys := sv env' f' g' h' b0' b1' b2' b3' b4' b5' b6' b7' b8' b9' b10' y') (w := w) (d := 9999) (t := 4) (off := 30) (i := 20) (by kernel_rfl) (a := .bool b9) (b := .bool b9') (by kernel_rfl) (by kernel_rfl) (run_equalIn_bool' _ _ _ _ _ Try.underlying4) e21
  have e19 := stepF (xs := sv env f g h b0 b1 b2 b3 b4 b5 b6 b7 b8 b9 b10 y) (ys := sv env' f' g' h' b0' b1' b2' b3' b4' b5' b6' b7' b8' b9' b10' y') (w := w) (d := 9999) (t := 4) (off := 29) (i := 19) (by kernel_rfl) (a := .bool b8) (b := .bool b8') (by kernel_rfl) (by kernel_rfl) (run_equalIn_bool' _ _ _ _ _ Try.underlying4) e20
  have e18 := stepF (xs := sv env f g h b0 b1 b2 b3 b4 b5 b6 b7 b8 b9 b10 y) (ys := sv env' f' g' h' b0' b1' b2' b3' b4' b5' b6' b7' b8' b9' b10' y') (w := w) (d := 9999) (t := 4) (off := 28) (i := 18) (by kernel_rfl) (a := .bool b7) (b := .bool b7') (by kernel_rfl) (by kernel_rfl) (run_equalIn_bool' _ _ _ _ _ Try.underlying4) e19
  have e17 := stepF (xs := sv env f g h b0 b1 b2 b3 b4 b5 b6 b7 b8 b9 b10 y) (ys := sv env' f' g' h' b0' b1' b2' b3' b4' b5' b6' b7' b8' b9' b10' y') (w := w) (d := 9999) (t := 4) (off := 27) (i := 17) (by kernel_rfl) (a := .bool b6) (b := .bool b6') (by kernel_rfl) (by kernel_rfl) (run_equalIn_bool' _ _ _ _ _ Try.underlying4) e18
  have e16 := stepF (xs := sv env f g h b0 b1 b2 b3 b4 b5 b6 b7 b8 b9 b10 y) (ys := sv env' f' g' h' b0' b1' b2' b3' b4' b5' b6' b7' b8' b9' b10' y') (w := w) (d := 9999) (t := 4) (off := 26) (i := 16) (by kernel_rfl) (a := .bool b5) (b := .bool b5') (by kernel_rfl) (by kernel_rfl) (run_equalIn_bool' _ _ _ _ _ Try.underlying4) e17
  have e15 := stepF (xs := sv env f g h b0 b1 b2 b3 b4 b5 b6 b7 b8 b9 b10 y) (ys := sv env' f' g' h' b0' b1' b2' b3' b4' b5' b6' b7' b8' b9' b10' y') (w := w) (d := 9999) (t := 4) (off := 25) (i := 15) (by kernel_rfl) (a := .bool b4) (b := .bool b4') (by kernel_rfl) (by kernel_rfl) (run_equalIn_bool' _ _ _ _ _ Try.underlying4) e16
  have e14 := stepF (xs := sv env f g h b0 b1 b2 b3 b4 b5 b6 b7 b8 b9 b10 y) (ys := sv env' f' g' h' b0' b1' b2' b3' b4' b5' b6' b7' b8' b9' b10' y') (w := w) (d := 9999) (t := 4) (off := 24) (i := 14) (by kernel_rfl) (a := .bool b3) (b := .bool b3') (by kernel_rfl) (by kernel_rfl) (run_equalIn_bool' _ _ _ _ _ Try.underlying4) e15
  have e13 := stepF (xs := sv env f g h b0 b1 b2 b3 b4 b5 b6 b7 b8 b9 b10 y) (ys := sv env' f' g' h' b0' b1' b2' b3' b4' b5' b6' b7' b8' b9' b10' y') (w := w) (d := 9999) (t := 4) (off := 23) (i := 13) (by kernel_rfl) (a := .bool b2) (b := .bool b2') (by kernel_rfl) (by kernel_rfl) (run_equalIn_bool' _ _ _ _ _ Try.underlying4) e14
  have e12 := stepF (xs := sv env f g h b0 b1 b2 b3 b4 b5 b6 b7 b8 b9 b10 y) (ys := sv env' f' g' h' b0' b1' b2' b3' b4' b5' b6' b7' b8' b9' b10' y') (w := w) (d := 9999) (t := 4) (off := 22) (i := 12) (by kernel_rfl) (a := .bool b1) (b := .bool b1') (by kernel_rfl) (by kernel_rfl) (run_equalIn_bool' _ _ _ _ _ Try.underlying4) e13
  have e11 := stepF (xs := sv env f g h b0 b1 b2 b3 b4 b5 b6 b7 b8 b9 b10 y) (ys := sv env' f' g' h' b0' b1' b2' b3' b4' b5' b6' b7' b8' b9' b10' y') (w := w) (d := 9999) (t := 4) (off := 21) (i := 11) (by kernel_rfl) (a := .bool b0) (b := .bool b0') (by kernel_rfl) (by kernel_rfl) (run_equalIn_bool' _ _ _ _ _ Try.underlying4) e12
  have e10 := stepF (xs := sv env f g h b0 b1 b2 b3 b4 b5 b6 b7 b8 b9 b10 y) (ys := sv env' f' g' h' b0' b1' b2' b3' b4' b5' b6' b7' b8' b9' b10' y') (w := w) (d := 9999) (t := 56) (off := 20) (i := 10) (by kernel_rfl) (a := .int .u8 0) (b := .int .u8 0) (r := true) (by kernel_rfl) (by kernel_rfl) (by kernel_rfl) e11
  have e9 := stepF (xs := sv env f g h b0 b1 b2 b3 b4 b5 b6 b7 b8 b9 b10 y) (ys := sv env' f' g' h' b0' b1' b2' b3' b4' b5' b6' b7' b8' b9' b10' y') (w := w) (d := 9999) (t := 56) (off := 19) (i := 9) (by kernel_rfl) (a := .int .u8 0) (b := .int .u8 0) (r := true) (by kernel_rfl) (by kernel_rfl) (by kernel_rfl) e10
  have e8 := stepF (xs := sv env f g h b0 b1 b2 b3 b4 b5 b6 b7 b8 b9 b10 y) (ys := sv env' f' g' h' b0' b1' b2' b3' b4' b5' b6' b7' b8' b9' b10' y') (w := w) (d := 9999) (t := 55) (off := 18) (i := 8) (by kernel_rfl) (a := .int .u8 0) (b := .int .u8 0) (r := true) (by kernel_rfl) (by kernel_rfl) (by kernel_rfl) e9
  have e7 := stepF (xs := sv env f g h b0 b1 b2 b3 b4 b5 b6 b7 b8 b9 b10 y) (ys := sv env' f' g' h' b0' b1' b2' b3' b4' b5' b6' b7' b8' b9' b10' y') (w := w) (d := 9999) (t := 54) (off := 17) (i := 7) (by kernel_rfl) (a := .int .u8 0) (b := .int .u8 0) (r := true) (by kernel_rfl) (by kernel_rfl) (by kernel_rfl) e8
  have e6 := stepF (xs := sv env f g h b0 b1 b2 b3 b4 b5 b6 b7 b8 b9 b10 y) (ys := sv env' f' g' h' b0' b1' b2' b3' b4' b5' b6' b7' b8' b9' b10' y') (w := w) (d := 9999) (t := 53) (off := 16) (i := 6) (by kernel_rfl) (a := .int .u8 0) (b := .int .u8 0) (r := true) (by kernel_rfl) (by kernel_rfl) (by kernel_rfl) e7
  have e5 := stepF (xs := sv env f g h b0 b1 b2 b3 b4 b5 b6 b7 b8 b9 b10 y) (ys := sv env' f' g' h' b0' b1' b2' b3' b4' b5' b6' b7' b8' b9' b10' y') (w := w) (d := 9999) (t := 52) (off := 8) (i := 5) (by kernel_rfl) (a := .agg #[.int .u8 0, .int .u8 0, .int .u8 0, .int .u8 0, .int .u8 0, .int .u8 0, .bool false, .bool false]) (b := .agg #[.int .u8 0, .int .u8 0, .int .u8 0, .int .u8 0, .int .u8 0, .int .u8 0, .bool false, .bool false]) (r := true) (by kernel_rfl) (by kernel_rfl) (by kernel_rfl) e6
  have e4 := stepF (xs := sv env f g h b0 b1 b2 b3 b4 b5 b6 b7 b8 b9 b10 y) (ys := sv env' f' g' h' b0' b1' b2' b3' b4' b5' b6' b7' b8' b9' b10' y') (w := w) (d := 9999) (t := 45) (off := 7) (i := 4) (by kernel_rfl) (a := .int .u64 h) (b := .int .u64 h') (by kernel_rfl) (by kernel_rfl) (run_equalIn_int _ _ _ _ _ _ _ Try.underlying45) e5
  have e3 := stepF (xs := sv env f g h b0 b1 b2 b3 b4 b5 b6 b7 b8 b9 b10 y) (ys := sv env' f' g' h' b0' b1' b2' b3' b4' b5' b6' b7' b8' b9' b10' y') (w := w) (d := 9999) (t := 45) (off := 6) (i := 3) (by kernel_rfl) (a := .int .u64 g) (b := .int .u64 g') (by kernel_rfl) (by kernel_rfl) (run_equalIn_int _ _ _ _ _ _ _ Try.underlying45) e4
  have e2 := stepF (xs := sv env f g h b0 b1 b2 b3 b4 b5 b6 b7 b8 b9 b10 y) (ys := sv env' f' g' h' b0' b1' b2' b3' b4' b5' b6' b7' b8' b9' b10' y') (w := w) (d := 9999) (t := 45) (off := 5) (i := 2) (by kernel_rfl) (a := .int .u64 f) (b := .int .u64 f') (by kernel_rfl) (by kernel_rfl) (run_equalIn_int _ _ _ _ _ _ _ Try.underlying45) e3
  have e1 := stepF (xs := sv env f g h b0 b1 b2 b3 b4 b5 b6 b7 b8 b9 b10 y) (ys := sv env' f' g' h' b0' b1' b2' b3' b4' b5' b6' b7' b8' b9' b10' y') (w := w) (d := 9999) (t := 43) (off := 1) (i := 1) (by kernel_rfl) (a := .agg #[.pointer none, .int .i32 0, .int .i32 0, .int .u8 0]) (b := .agg #[.pointer none, .int .i32 0, .int .i32 0, .int .u8 0]) (r := true) (by kernel_rfl) (by kernel_rfl) (by kernel_rfl) e2
  have e0 := stepF (xs := sv env f g h b0 b1 b2 b3 b4 b5 b6 b7 b8 b9 b10 y) (ys := sv env' f' g' h' b0' b1' b2' b3' b4' b5' b6' b7' b8' b9' b10' y') (w := w) (d := 9999) (t := 9) (off := 0) (i := 0) (by kernel_rfl) (a := .string env) (b := .string env') (by kernel_rfl) (by kernel_rfl) (by rw [run_equalIn_string _ _ _ _ _ Try.underlying9, ← beq_toListBytes]) e1
  rw [List.drop_zero] at e0
  rw [e0]
  simp [Bool.and_assoc]
end Go.Proofs.Ytbebfpmnekbldaa.op
