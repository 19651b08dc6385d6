/-
  Options: OptionsFromConfig: its region.
-/
import Derived.Test.YtbebfpmnekbldaaOj

namespace Go.Proofs.Ytbebfpmnekbldaa.op
open Go.ChangeShapes Go.WideShapes Go.ChangeAt Go.RowKit Go.Deep
set_option linter.unusedVariables false
set_option linter.unusedSimpArgs false
set_option maxRecDepth 100000
set_option maxHeartbeats 1000000
noncomputable def ops19 : Array Oper := (Try.f19.body.bind (regOps 1)).getD #[]
theorem size19 : ops19.size = 119 := by kernel_rfl
noncomputable def V19 (C : Nat) (b0 : Bool) (b1 : Bool) (b2 : Bool) (b3 : Bool) (b4 : Bool) (b5 : Bool) (b6 : Bool) (b7 : Bool) (b8 : Bool) (b9 : Bool) (b10 : Bool) (env : ByteArray) (f : Int) (g : Int) (h : Int) (la : Option Addr) (ln lc : Nat) (m r : Option Addr) (i : Nat) : Value := [.pointer (some ⟨C, 0, none⟩), .pointer (some ⟨C, 0, none⟩), .pointer (some ⟨C, 34, none⟩), .slice none 0 0, .pointer (some ⟨C, 0, none⟩), .pointer (some ⟨C, 0, none⟩), .pointer (some ⟨C, 45, none⟩), .agg zjx, .pointer (some ⟨C, 0, none⟩), .pointer (some ⟨C, 0, none⟩), .pointer (some ⟨C, 4, none⟩), .pointer none, .pointer (some ⟨C, 0, none⟩), .pointer (some ⟨C, 0, none⟩), .pointer (some ⟨C, 5, none⟩), .pointer none, .pointer (some ⟨C, 0, none⟩), .pointer (some ⟨C, 0, none⟩), .pointer (some ⟨C, 6, none⟩), .pointer m, .pointer (some ⟨C, 0, none⟩), .pointer (some ⟨C, 0, none⟩), .pointer (some ⟨C, 7, none⟩), .pointer r, .pointer (some ⟨C, 0, none⟩), .pointer (some ⟨C, 0, none⟩), .pointer (some ⟨C, 11, none⟩), .slice la ln lc, .pointer (some ⟨C, 0, none⟩), .pointer (some ⟨C, 0, none⟩), .pointer (some ⟨C, 59, none⟩), .int .u64 f, .pointer (some ⟨C, 0, none⟩), .pointer (some ⟨C, 0, none⟩), .pointer (some ⟨C, 61, none⟩), .int .u64 g, .pointer (some ⟨C, 0, none⟩), .pointer (some ⟨C, 0, none⟩), .pointer (some ⟨C, 62, none⟩), .int .u64 h, .pointer (some ⟨C, 0, none⟩), .pointer (some ⟨C, 0, none⟩), .pointer (some ⟨C, 10, none⟩), .string env, .pointer (some ⟨C, 0, none⟩), .pointer (some ⟨C, 0, none⟩), .pointer (some ⟨C, 65, none⟩), .agg zts, .pointer (some ⟨C, 0, none⟩), .pointer (some ⟨C, 0, none⟩), .pointer (some ⟨C, 73, none⟩), .int .u8 0, .pointer (some ⟨C, 0, none⟩), .pointer (some ⟨C, 0, none⟩), .pointer (some ⟨C, 97, none⟩), .int .u8 0, .pointer (some ⟨C, 0, none⟩), .pointer (some ⟨C, 0, none⟩), .pointer (some ⟨C, 98, none⟩), .int .u8 0, .pointer (some ⟨C, 0, none⟩), .pointer (some ⟨C, 0, none⟩), .pointer (some ⟨C, 0, none⟩), .agg zmt, .pointer (some ⟨C, 0, none⟩), .pointer (some ⟨C, 0, none⟩), .pointer (some ⟨C, 91, none⟩), .bool b0, .pointer (some ⟨C, 0, none⟩), .pointer (some ⟨C, 0, none⟩), .pointer (some ⟨C, 92, none⟩), .bool b1, .pointer (some ⟨C, 0, none⟩), .pointer (some ⟨C, 0, none⟩), .pointer (some ⟨C, 77, none⟩), .bool b2, .pointer (some ⟨C, 0, none⟩), .pointer (some ⟨C, 0, none⟩), .pointer (some ⟨C, 76, none⟩), .bool b3, .pointer (some ⟨C, 0, none⟩), .pointer (some ⟨C, 0, none⟩), .pointer (some ⟨C, 75, none⟩), .bool b4, .pointer (some ⟨C, 0, none⟩), .pointer (some ⟨C, 0, none⟩), .pointer (some ⟨C, 89, none⟩), .bool b5, .pointer (some ⟨C, 0, none⟩), .pointer (some ⟨C, 0, none⟩), .pointer (some ⟨C, 90, none⟩), .bool b6, .pointer (some ⟨C, 0, none⟩), .pointer (some ⟨C, 0, none⟩), .pointer (some ⟨C, 93, none⟩), .bool b7, .pointer (some ⟨C, 0, none⟩), .pointer (some ⟨C, 0, none⟩), .pointer (some ⟨C, 94, none⟩), .bool b8, .pointer (some ⟨C, 0, none⟩), .pointer (some ⟨C, 0, none⟩), .pointer (some ⟨C, 95, none⟩), .bool b9, .pointer (some ⟨C, 0, none⟩), .pointer (some ⟨C, 0, none⟩), .pointer (some ⟨C, 96, none⟩), .bool b10, .pointer (some ⟨C, 0, none⟩), .pointer (some ⟨C, 0, none⟩), .pointer (some ⟨C, 83, none⟩), .int .u8 0, .pointer (some ⟨C, 0, none⟩), .pointer (some ⟨C, 0, none⟩), .pointer (some ⟨C, 84, none⟩), .int .u8 0, .agg (sv env f g h b0 b1 b2 b3 b4 b5 b6 b7 b8 b9 b10 false), .agg (ov m r la ln lc env f g h b0 b1 b2 b3 b4 b5 b6 b7 b8 b9 b10 false), undef].getD i undef
def Good19 (C : Nat) (b0 : Bool) (b1 : Bool) (b2 : Bool) (b3 : Bool) (b4 : Bool) (b5 : Bool) (b6 : Bool) (b7 : Bool) (b8 : Bool) (b9 : Bool) (b10 : Bool) (env : ByteArray) (f : Int) (g : Int) (h : Int) (la : Option Addr) (ln lc : Nat) (m r : Option Addr) (i : Nat) : Prop := ∀ (o : Oper) (L : Array Bool) (a a0 : Act) (w : World), ops19[i]? = some o → (∀ e ∈ o.after, Region.binds .any e = true → L.getD e.on false = true) →
  a0.eval (.tmp 0) = .pointer (some ⟨C, 0, none⟩) → Sl ops19 (V19 C b0 b1 b2 b3 b4 b5 b6 b7 b8 b9 b10 env f g h la ln lc m r) a0 L a → w.heap[C]? = some (.cells (cw b0 b1 b2 b3 b4 b5 b6 b7 b8 b9 b10 env f g h la ln lc m r) 97 (0, 0)) → (execOp a.eval o).run Try.prog w = .ok (.value (V19 C b0 b1 b2 b3 b4 b5 b6 b7 b8 b9 b10 env f g h la ln lc m r i)) w
theorem g19_0 (C : Nat) (b0 : Bool) (b1 : Bool) (b2 : Bool) (b3 : Bool) (b4 : Bool) (b5 : Bool) (b6 : Bool) (b7 : Bool) (b8 : Bool) (b9 : Bool) (b10 : Bool) (env : ByteArray) (f : Int) (g : Int) (h : Int) (la : Option Addr) (ln lc : Nat) (m r : Option Addr) : Good19 C b0 b1 b2 b3 b4 b5 b6 b7 b8 b9 b10 env f g h la ln lc m r 0 := by
  intro o L a a0 w ho hall h0 hS hC
  have ho1 := at_op (q := Op.move (Operand.tmp 0)) (by kernel_rfl) ho
  have hx : a.eval (.tmp 0) = .pointer (some ⟨C, 0, none⟩) := (hS.out (by kernel_rfl)).trans h0
  exact k_move _ ho1 hx
theorem g19_1 (C : Nat) (b0 : Bool) (b1 : Bool) (b2 : Bool) (b3 : Bool) (b4 : Bool) (b5 : Bool) (b6 : Bool) (b7 : Bool) (b8 : Bool) (b9 : Bool) (b10 : Bool) (env : ByteArray) (f : Int) (g : Int) (h : Int) (la : Option Addr) (ln lc : Nat) (m r : Option Addr) : Good19 C b0 b1 b2 b3 b4 b5 b6 b7 b8 b9 b10 env f g h la ln lc m r 1 := by
  intro o L a a0 w ho hall h0 hS hC
  have ho1 := at_op (q := Op.nilCheck (Operand.tmp 3)) (by kernel_rfl) ho
  have hx : a.eval (.tmp 3) = .pointer (some ⟨C, 0, none⟩) := hS.arg (p := 0) (d := 3) ho hall (by kernel_rfl) (by kernel_rfl)
  show _ = Result.ok (Next.value (.pointer (some ⟨C, 0, none⟩))) w
  unfold execOp
  simp only [ho1, hx]
  go_simp
theorem g19_2 (C : Nat) (b0 : Bool) (b1 : Bool) (b2 : Bool) (b3 : Bool) (b4 : Bool) (b5 : Bool) (b6 : Bool) (b7 : Bool) (b8 : Bool) (b9 : Bool) (b10 : Bool) (env : ByteArray) (f : Int) (g : Int) (h : Int) (la : Option Addr) (ln lc : Nat) (m r : Option Addr) : Good19 C b0 b1 b2 b3 b4 b5 b6 b7 b8 b9 b10 env f g h la ln lc m r 2 := by
  intro o L a a0 w ho hall h0 hS hC
  have ho1 := at_op (q := Op.fieldAddr 97 (Operand.tmp 4) 28) (by kernel_rfl) ho
  have hx : a.eval (.tmp 4) = .pointer (some ⟨C, 0, none⟩) := hS.arg (p := 1) (d := 4) ho hall (by kernel_rfl) (by kernel_rfl)
  show _ = Result.ok (Next.value (.pointer (some ⟨C, 34, none⟩))) w
  unfold execOp
  simp only [ho1, hx]
  go_simp
theorem g19_3 (C : Nat) (b0 : Bool) (b1 : Bool) (b2 : Bool) (b3 : Bool) (b4 : Bool) (b5 : Bool) (b6 : Bool) (b7 : Bool) (b8 : Bool) (b9 : Bool) (b10 : Bool) (env : ByteArray) (f : Int) (g : Int) (h : Int) (la : Option Addr) (ln lc : Nat) (m r : Option Addr) : Good19 C b0 b1 b2 b3 b4 b5 b6 b7 b8 b9 b10 env f g h la ln lc m r 3 := by
  intro o L a a0 w ho hall h0 hS hC
  have ho1 := at_op (q := Op.load 22 (Operand.tmp 5)) (by kernel_rfl) ho
  have hx : a.eval (.tmp 5) = .pointer (some ⟨C, 34, none⟩) := hS.arg (p := 2) (d := 5) ho hall (by kernel_rfl) (by kernel_rfl)
  have hc : w.cell? ⟨C, 34, none⟩ = some (.slice none 0 0) := (cell_of_row _ _ 34 _ _ _ hC).trans (cw_34 ..)
  show _ = Result.ok (Next.value (.slice none 0 0)) w
  unfold execOp
  simp only [ho1, hx]
  go_simp
theorem g19_4 (C : Nat) (b0 : Bool) (b1 : Bool) (b2 : Bool) (b3 : Bool) (b4 : Bool) (b5 : Bool) (b6 : Bool) (b7 : Bool) (b8 : Bool) (b9 : Bool) (b10 : Bool) (env : ByteArray) (f : Int) (g : Int) (h : Int) (la : Option Addr) (ln lc : Nat) (m r : Option Addr) : Good19 C b0 b1 b2 b3 b4 b5 b6 b7 b8 b9 b10 env f g h la ln lc m r 4 := by
  intro o L a a0 w ho hall h0 hS hC
  have ho1 := at_op (q := Op.move (Operand.tmp 0)) (by kernel_rfl) ho
  have hx : a.eval (.tmp 0) = .pointer (some ⟨C, 0, none⟩) := (hS.out (by kernel_rfl)).trans h0
  exact k_move _ ho1 hx
theorem g19_5 (C : Nat) (b0 : Bool) (b1 : Bool) (b2 : Bool) (b3 : Bool) (b4 : Bool) (b5 : Bool) (b6 : Bool) (b7 : Bool) (b8 : Bool) (b9 : Bool) (b10 : Bool) (env : ByteArray) (f : Int) (g : Int) (h : Int) (la : Option Addr) (ln lc : Nat) (m r : Option Addr) : Good19 C b0 b1 b2 b3 b4 b5 b6 b7 b8 b9 b10 env f g h la ln lc m r 5 := by
  intro o L a a0 w ho hall h0 hS hC
  have ho1 := at_op (q := Op.nilCheck (Operand.tmp 7)) (by kernel_rfl) ho
  have hx : a.eval (.tmp 7) = .pointer (some ⟨C, 0, none⟩) := hS.arg (p := 4) (d := 7) ho hall (by kernel_rfl) (by kernel_rfl)
  show _ = Result.ok (Next.value (.pointer (some ⟨C, 0, none⟩))) w
  unfold execOp
  simp only [ho1, hx]
  go_simp
theorem g19_6 (C : Nat) (b0 : Bool) (b1 : Bool) (b2 : Bool) (b3 : Bool) (b4 : Bool) (b5 : Bool) (b6 : Bool) (b7 : Bool) (b8 : Bool) (b9 : Bool) (b10 : Bool) (env : ByteArray) (f : Int) (g : Int) (h : Int) (la : Option Addr) (ln lc : Nat) (m r : Option Addr) : Good19 C b0 b1 b2 b3 b4 b5 b6 b7 b8 b9 b10 env f g h la ln lc m r 6 := by
  intro o L a a0 w ho hall h0 hS hC
  have ho1 := at_op (q := Op.fieldAddr 97 (Operand.tmp 8) 39) (by kernel_rfl) ho
  have hx : a.eval (.tmp 8) = .pointer (some ⟨C, 0, none⟩) := hS.arg (p := 5) (d := 8) ho hall (by kernel_rfl) (by kernel_rfl)
  show _ = Result.ok (Next.value (.pointer (some ⟨C, 45, none⟩))) w
  unfold execOp
  simp only [ho1, hx]
  go_simp
theorem g19_7 (C : Nat) (b0 : Bool) (b1 : Bool) (b2 : Bool) (b3 : Bool) (b4 : Bool) (b5 : Bool) (b6 : Bool) (b7 : Bool) (b8 : Bool) (b9 : Bool) (b10 : Bool) (env : ByteArray) (f : Int) (g : Int) (h : Int) (la : Option Addr) (ln lc : Nat) (m r : Option Addr) : Good19 C b0 b1 b2 b3 b4 b5 b6 b7 b8 b9 b10 env f g h la ln lc m r 7 := by
  intro o L a a0 w ho hall h0 hS hC
  have ho1 := at_op (q := Op.load 32 (Operand.tmp 9)) (by kernel_rfl) ho
  have hx : a.eval (.tmp 9) = .pointer (some ⟨C, 45, none⟩) := hS.arg (p := 6) (d := 9) ho hall (by kernel_rfl) (by kernel_rfl)
  have hr : w.rangeAt C 45 zjx.toList := by have := World.rangeAt_of_block hC 45 12; rw [cw_jx] at this; exact this
  exact k_row 32 _ ho1 C 45 hx zjx hr _ Try.underlying32 rfl (by rw [zjx_size]; kernel_rfl)
theorem g19_8 (C : Nat) (b0 : Bool) (b1 : Bool) (b2 : Bool) (b3 : Bool) (b4 : Bool) (b5 : Bool) (b6 : Bool) (b7 : Bool) (b8 : Bool) (b9 : Bool) (b10 : Bool) (env : ByteArray) (f : Int) (g : Int) (h : Int) (la : Option Addr) (ln lc : Nat) (m r : Option Addr) : Good19 C b0 b1 b2 b3 b4 b5 b6 b7 b8 b9 b10 env f g h la ln lc m r 8 := by
  intro o L a a0 w ho hall h0 hS hC
  have ho1 := at_op (q := Op.move (Operand.tmp 0)) (by kernel_rfl) ho
  have hx : a.eval (.tmp 0) = .pointer (some ⟨C, 0, none⟩) := (hS.out (by kernel_rfl)).trans h0
  exact k_move _ ho1 hx
theorem g19_9 (C : Nat) (b0 : Bool) (b1 : Bool) (b2 : Bool) (b3 : Bool) (b4 : Bool) (b5 : Bool) (b6 : Bool) (b7 : Bool) (b8 : Bool) (b9 : Bool) (b10 : Bool) (env : ByteArray) (f : Int) (g : Int) (h : Int) (la : Option Addr) (ln lc : Nat) (m r : Option Addr) : Good19 C b0 b1 b2 b3 b4 b5 b6 b7 b8 b9 b10 env f g h la ln lc m r 9 := by
  intro o L a a0 w ho hall h0 hS hC
  have ho1 := at_op (q := Op.nilCheck (Operand.tmp 11)) (by kernel_rfl) ho
  have hx : a.eval (.tmp 11) = .pointer (some ⟨C, 0, none⟩) := hS.arg (p := 8) (d := 11) ho hall (by kernel_rfl) (by kernel_rfl)
  show _ = Result.ok (Next.value (.pointer (some ⟨C, 0, none⟩))) w
  unfold execOp
  simp only [ho1, hx]
  go_simp
theorem g19_10 (C : Nat) (b0 : Bool) (b1 : Bool) (b2 : Bool) (b3 : Bool) (b4 : Bool) (b5 : Bool) (b6 : Bool) (b7 : Bool) (b8 : Bool) (b9 : Bool) (b10 : Bool) (env : ByteArray) (f : Int) (g : Int) (h : Int) (la : Option Addr) (ln lc : Nat) (m r : Option Addr) : Good19 C b0 b1 b2 b3 b4 b5 b6 b7 b8 b9 b10 env f g h la ln lc m r 10 := by
  intro o L a a0 w ho hall h0 hS hC
  have ho1 := at_op (q := Op.fieldAddr 97 (Operand.tmp 12) 1) (by kernel_rfl) ho
  have hx : a.eval (.tmp 12) = .pointer (some ⟨C, 0, none⟩) := hS.arg (p := 9) (d := 12) ho hall (by kernel_rfl) (by kernel_rfl)
  show _ = Result.ok (Next.value (.pointer (some ⟨C, 4, none⟩))) w
  unfold execOp
  simp only [ho1, hx]
  go_simp
theorem g19_11 (C : Nat) (b0 : Bool) (b1 : Bool) (b2 : Bool) (b3 : Bool) (b4 : Bool) (b5 : Bool) (b6 : Bool) (b7 : Bool) (b8 : Bool) (b9 : Bool) (b10 : Bool) (env : ByteArray) (f : Int) (g : Int) (h : Int) (la : Option Addr) (ln lc : Nat) (m r : Option Addr) : Good19 C b0 b1 b2 b3 b4 b5 b6 b7 b8 b9 b10 env f g h la ln lc m r 11 := by
  intro o L a a0 w ho hall h0 hS hC
  have ho1 := at_op (q := Op.load 35 (Operand.tmp 13)) (by kernel_rfl) ho
  have hx : a.eval (.tmp 13) = .pointer (some ⟨C, 4, none⟩) := hS.arg (p := 10) (d := 13) ho hall (by kernel_rfl) (by kernel_rfl)
  have hc : w.cell? ⟨C, 4, none⟩ = some (.pointer none) := (cell_of_row _ _ 4 _ _ _ hC).trans (cw_4 ..)
  show _ = Result.ok (Next.value (.pointer none)) w
  unfold execOp
  simp only [ho1, hx]
  go_simp
theorem g19_12 (C : Nat) (b0 : Bool) (b1 : Bool) (b2 : Bool) (b3 : Bool) (b4 : Bool) (b5 : Bool) (b6 : Bool) (b7 : Bool) (b8 : Bool) (b9 : Bool) (b10 : Bool) (env : ByteArray) (f : Int) (g : Int) (h : Int) (la : Option Addr) (ln lc : Nat) (m r : Option Addr) : Good19 C b0 b1 b2 b3 b4 b5 b6 b7 b8 b9 b10 env f g h la ln lc m r 12 := by
  intro o L a a0 w ho hall h0 hS hC
  have ho1 := at_op (q := Op.move (Operand.tmp 0)) (by kernel_rfl) ho
  have hx : a.eval (.tmp 0) = .pointer (some ⟨C, 0, none⟩) := (hS.out (by kernel_rfl)).trans h0
  exact k_move _ ho1 hx
theorem g19_13 (C : Nat) (b0 : Bool) (b1 : Bool) (b2 : Bool) (b3 : Bool) (b4 : Bool) (b5 : Bool) (b6 : Bool) (b7 : Bool) (b8 : Bool) (b9 : Bool) (b10 : Bool) (env : ByteArray) (f : Int) (g : Int) (h : Int) (la : Option Addr) (ln lc : Nat) (m r : Option Addr) : Good19 C b0 b1 b2 b3 b4 b5 b6 b7 b8 b9 b10 env f g h la ln lc m r 13 := by
  intro o L a a0 w ho hall h0 hS hC
  have ho1 := at_op (q := Op.nilCheck (Operand.tmp 15)) (by kernel_rfl) ho
  have hx : a.eval (.tmp 15) = .pointer (some ⟨C, 0, none⟩) := hS.arg (p := 12) (d := 15) ho hall (by kernel_rfl) (by kernel_rfl)
  show _ = Result.ok (Next.value (.pointer (some ⟨C, 0, none⟩))) w
  unfold execOp
  simp only [ho1, hx]
  go_simp
theorem g19_14 (C : Nat) (b0 : Bool) (b1 : Bool) (b2 : Bool) (b3 : Bool) (b4 : Bool) (b5 : Bool) (b6 : Bool) (b7 : Bool) (b8 : Bool) (b9 : Bool) (b10 : Bool) (env : ByteArray) (f : Int) (g : Int) (h : Int) (la : Option Addr) (ln lc : Nat) (m r : Option Addr) : Good19 C b0 b1 b2 b3 b4 b5 b6 b7 b8 b9 b10 env f g h la ln lc m r 14 := by
  intro o L a a0 w ho hall h0 hS hC
  have ho1 := at_op (q := Op.fieldAddr 97 (Operand.tmp 16) 2) (by kernel_rfl) ho
  have hx : a.eval (.tmp 16) = .pointer (some ⟨C, 0, none⟩) := hS.arg (p := 13) (d := 16) ho hall (by kernel_rfl) (by kernel_rfl)
  show _ = Result.ok (Next.value (.pointer (some ⟨C, 5, none⟩))) w
  unfold execOp
  simp only [ho1, hx]
  go_simp
theorem g19_15 (C : Nat) (b0 : Bool) (b1 : Bool) (b2 : Bool) (b3 : Bool) (b4 : Bool) (b5 : Bool) (b6 : Bool) (b7 : Bool) (b8 : Bool) (b9 : Bool) (b10 : Bool) (env : ByteArray) (f : Int) (g : Int) (h : Int) (la : Option Addr) (ln lc : Nat) (m r : Option Addr) : Good19 C b0 b1 b2 b3 b4 b5 b6 b7 b8 b9 b10 env f g h la ln lc m r 15 := by
  intro o L a a0 w ho hall h0 hS hC
  have ho1 := at_op (q := Op.load 33 (Operand.tmp 17)) (by kernel_rfl) ho
  have hx : a.eval (.tmp 17) = .pointer (some ⟨C, 5, none⟩) := hS.arg (p := 14) (d := 17) ho hall (by kernel_rfl) (by kernel_rfl)
  have hc : w.cell? ⟨C, 5, none⟩ = some (.pointer none) := (cell_of_row _ _ 5 _ _ _ hC).trans (cw_5 ..)
  show _ = Result.ok (Next.value (.pointer none)) w
  unfold execOp
  simp only [ho1, hx]
  go_simp
theorem g19_16 (C : Nat) (b0 : Bool) (b1 : Bool) (b2 : Bool) (b3 : Bool) (b4 : Bool) (b5 : Bool) (b6 : Bool) (b7 : Bool) (b8 : Bool) (b9 : Bool) (b10 : Bool) (env : ByteArray) (f : Int) (g : Int) (h : Int) (la : Option Addr) (ln lc : Nat) (m r : Option Addr) : Good19 C b0 b1 b2 b3 b4 b5 b6 b7 b8 b9 b10 env f g h la ln lc m r 16 := by
  intro o L a a0 w ho hall h0 hS hC
  have ho1 := at_op (q := Op.move (Operand.tmp 0)) (by kernel_rfl) ho
  have hx : a.eval (.tmp 0) = .pointer (some ⟨C, 0, none⟩) := (hS.out (by kernel_rfl)).trans h0
  exact k_move _ ho1 hx
theorem g19_17 (C : Nat) (b0 : Bool) (b1 : Bool) (b2 : Bool) (b3 : Bool) (b4 : Bool) (b5 : Bool) (b6 : Bool) (b7 : Bool) (b8 : Bool) (b9 : Bool) (b10 : Bool) (env : ByteArray) (f : Int) (g : Int) (h : Int) (la : Option Addr) (ln lc : Nat) (m r : Option Addr) : Good19 C b0 b1 b2 b3 b4 b5 b6 b7 b8 b9 b10 env f g h la ln lc m r 17 := by
  intro o L a a0 w ho hall h0 hS hC
  have ho1 := at_op (q := Op.nilCheck (Operand.tmp 19)) (by kernel_rfl) ho
  have hx : a.eval (.tmp 19) = .pointer (some ⟨C, 0, none⟩) := hS.arg (p := 16) (d := 19) ho hall (by kernel_rfl) (by kernel_rfl)
  show _ = Result.ok (Next.value (.pointer (some ⟨C, 0, none⟩))) w
  unfold execOp
  simp only [ho1, hx]
  go_simp
theorem g19_18 (C : Nat) (b0 : Bool) (b1 : Bool) (b2 : Bool) (b3 : Bool) (b4 : Bool) (b5 : Bool) (b6 : Bool) (b7 : Bool) (b8 : Bool) (b9 : Bool) (b10 : Bool) (env : ByteArray) (f : Int) (g : Int) (h : Int) (la : Option Addr) (ln lc : Nat) (m r : Option Addr) : Good19 C b0 b1 b2 b3 b4 b5 b6 b7 b8 b9 b10 env f g h la ln lc m r 18 := by
  intro o L a a0 w ho hall h0 hS hC
  have ho1 := at_op (q := Op.fieldAddr 97 (Operand.tmp 20) 3) (by kernel_rfl) ho
  have hx : a.eval (.tmp 20) = .pointer (some ⟨C, 0, none⟩) := hS.arg (p := 17) (d := 20) ho hall (by kernel_rfl) (by kernel_rfl)
  show _ = Result.ok (Next.value (.pointer (some ⟨C, 6, none⟩))) w
  unfold execOp
  simp only [ho1, hx]
  go_simp
theorem g19_19 (C : Nat) (b0 : Bool) (b1 : Bool) (b2 : Bool) (b3 : Bool) (b4 : Bool) (b5 : Bool) (b6 : Bool) (b7 : Bool) (b8 : Bool) (b9 : Bool) (b10 : Bool) (env : ByteArray) (f : Int) (g : Int) (h : Int) (la : Option Addr) (ln lc : Nat) (m r : Option Addr) : Good19 C b0 b1 b2 b3 b4 b5 b6 b7 b8 b9 b10 env f g h la ln lc m r 19 := by
  intro o L a a0 w ho hall h0 hS hC
  have ho1 := at_op (q := Op.load 34 (Operand.tmp 21)) (by kernel_rfl) ho
  have hx : a.eval (.tmp 21) = .pointer (some ⟨C, 6, none⟩) := hS.arg (p := 18) (d := 21) ho hall (by kernel_rfl) (by kernel_rfl)
  have hc : w.cell? ⟨C, 6, none⟩ = some (.pointer m) := (cell_of_row _ _ 6 _ _ _ hC).trans (cw_6 ..)
  show _ = Result.ok (Next.value (.pointer m)) w
  unfold execOp
  simp only [ho1, hx]
  go_simp
theorem g19_20 (C : Nat) (b0 : Bool) (b1 : Bool) (b2 : Bool) (b3 : Bool) (b4 : Bool) (b5 : Bool) (b6 : Bool) (b7 : Bool) (b8 : Bool) (b9 : Bool) (b10 : Bool) (env : ByteArray) (f : Int) (g : Int) (h : Int) (la : Option Addr) (ln lc : Nat) (m r : Option Addr) : Good19 C b0 b1 b2 b3 b4 b5 b6 b7 b8 b9 b10 env f g h la ln lc m r 20 := by
  intro o L a a0 w ho hall h0 hS hC
  have ho1 := at_op (q := Op.move (Operand.tmp 0)) (by kernel_rfl) ho
  have hx : a.eval (.tmp 0) = .pointer (some ⟨C, 0, none⟩) := (hS.out (by kernel_rfl)).trans h0
  exact k_move _ ho1 hx
theorem g19_21 (C : Nat) (b0 : Bool) (b1 : Bool) (b2 : Bool) (b3 : Bool) (b4 : Bool) (b5 : Bool) (b6 : Bool) (b7 : Bool) (b8 : Bool) (b9 : Bool) (b10 : Bool) (env : ByteArray) (f : Int) (g : Int) (h : Int) (la : Option Addr) (ln lc : Nat) (m r : Option Addr) : Good19 C b0 b1 b2 b3 b4 b5 b6 b7 b8 b9 b10 env f g h la ln lc m r 21 := by
  intro o L a a0 w ho hall h0 hS hC
  have ho1 := at_op (q := Op.nilCheck (Operand.tmp 23)) (by kernel_rfl) ho
  have hx : a.eval (.tmp 23) = .pointer (some ⟨C, 0, none⟩) := hS.arg (p := 20) (d := 23) ho hall (by kernel_rfl) (by kernel_rfl)
  show _ = Result.ok (Next.value (.pointer (some ⟨C, 0, none⟩))) w
  unfold execOp
  simp only [ho1, hx]
  go_simp
theorem g19_22 (C : Nat) (b0 : Bool) (b1 : Bool) (b2 : Bool) (b3 : Bool) (b4 : Bool) (b5 : Bool) (b6 : Bool) (b7 : Bool) (b8 : Bool) (b9 : Bool) (b10 : Bool) (env : ByteArray) (f : Int) (g : Int) (h : Int) (la : Option Addr) (ln lc : Nat) (m r : Option Addr) : Good19 C b0 b1 b2 b3 b4 b5 b6 b7 b8 b9 b10 env f g h la ln lc m r 22 := by
  intro o L a a0 w ho hall h0 hS hC
  have ho1 := at_op (q := Op.fieldAddr 97 (Operand.tmp 24) 4) (by kernel_rfl) ho
  have hx : a.eval (.tmp 24) = .pointer (some ⟨C, 0, none⟩) := hS.arg (p := 21) (d := 24) ho hall (by kernel_rfl) (by kernel_rfl)
  show _ = Result.ok (Next.value (.pointer (some ⟨C, 7, none⟩))) w
  unfold execOp
  simp only [ho1, hx]
  go_simp
theorem g19_23 (C : Nat) (b0 : Bool) (b1 : Bool) (b2 : Bool) (b3 : Bool) (b4 : Bool) (b5 : Bool) (b6 : Bool) (b7 : Bool) (b8 : Bool) (b9 : Bool) (b10 : Bool) (env : ByteArray) (f : Int) (g : Int) (h : Int) (la : Option Addr) (ln lc : Nat) (m r : Option Addr) : Good19 C b0 b1 b2 b3 b4 b5 b6 b7 b8 b9 b10 env f g h la ln lc m r 23 := by
  intro o L a a0 w ho hall h0 hS hC
  have ho1 := at_op (q := Op.load 34 (Operand.tmp 25)) (by kernel_rfl) ho
  have hx : a.eval (.tmp 25) = .pointer (some ⟨C, 7, none⟩) := hS.arg (p := 22) (d := 25) ho hall (by kernel_rfl) (by kernel_rfl)
  have hc : w.cell? ⟨C, 7, none⟩ = some (.pointer r) := (cell_of_row _ _ 7 _ _ _ hC).trans (cw_7 ..)
  show _ = Result.ok (Next.value (.pointer r)) w
  unfold execOp
  simp only [ho1, hx]
  go_simp
theorem g19_24 (C : Nat) (b0 : Bool) (b1 : Bool) (b2 : Bool) (b3 : Bool) (b4 : Bool) (b5 : Bool) (b6 : Bool) (b7 : Bool) (b8 : Bool) (b9 : Bool) (b10 : Bool) (env : ByteArray) (f : Int) (g : Int) (h : Int) (la : Option Addr) (ln lc : Nat) (m r : Option Addr) : Good19 C b0 b1 b2 b3 b4 b5 b6 b7 b8 b9 b10 env f g h la ln lc m r 24 := by
  intro o L a a0 w ho hall h0 hS hC
  have ho1 := at_op (q := Op.move (Operand.tmp 0)) (by kernel_rfl) ho
  have hx : a.eval (.tmp 0) = .pointer (some ⟨C, 0, none⟩) := (hS.out (by kernel_rfl)).trans h0
  exact k_move _ ho1 hx
theorem g19_25 (C : Nat) (b0 : Bool) (b1 : Bool) (b2 : Bool) (b3 : Bool) (b4 : Bool) (b5 : Bool) (b6 : Bool) (b7 : Bool) (b8 : Bool) (b9 : Bool) (b10 : Bool) (env : ByteArray) (f : Int) (g : Int) (h : Int) (la : Option Addr) (ln lc : Nat) (m r : Option Addr) : Good19 C b0 b1 b2 b3 b4 b5 b6 b7 b8 b9 b10 env f g h la ln lc m r 25 := by
  intro o L a a0 w ho hall h0 hS hC
  have ho1 := at_op (q := Op.nilCheck (Operand.tmp 27)) (by kernel_rfl) ho
  have hx : a.eval (.tmp 27) = .pointer (some ⟨C, 0, none⟩) := hS.arg (p := 24) (d := 27) ho hall (by kernel_rfl) (by kernel_rfl)
  show _ = Result.ok (Next.value (.pointer (some ⟨C, 0, none⟩))) w
  unfold execOp
  simp only [ho1, hx]
  go_simp
theorem g19_26 (C : Nat) (b0 : Bool) (b1 : Bool) (b2 : Bool) (b3 : Bool) (b4 : Bool) (b5 : Bool) (b6 : Bool) (b7 : Bool) (b8 : Bool) (b9 : Bool) (b10 : Bool) (env : ByteArray) (f : Int) (g : Int) (h : Int) (la : Option Addr) (ln lc : Nat) (m r : Option Addr) : Good19 C b0 b1 b2 b3 b4 b5 b6 b7 b8 b9 b10 env f g h la ln lc m r 26 := by
  intro o L a a0 w ho hall h0 hS hC
  have ho1 := at_op (q := Op.fieldAddr 97 (Operand.tmp 28) 8) (by kernel_rfl) ho
  have hx : a.eval (.tmp 28) = .pointer (some ⟨C, 0, none⟩) := hS.arg (p := 25) (d := 28) ho hall (by kernel_rfl) (by kernel_rfl)
  show _ = Result.ok (Next.value (.pointer (some ⟨C, 11, none⟩))) w
  unfold execOp
  simp only [ho1, hx]
  go_simp
theorem g19_27 (C : Nat) (b0 : Bool) (b1 : Bool) (b2 : Bool) (b3 : Bool) (b4 : Bool) (b5 : Bool) (b6 : Bool) (b7 : Bool) (b8 : Bool) (b9 : Bool) (b10 : Bool) (env : ByteArray) (f : Int) (g : Int) (h : Int) (la : Option Addr) (ln lc : Nat) (m r : Option Addr) : Good19 C b0 b1 b2 b3 b4 b5 b6 b7 b8 b9 b10 env f g h la ln lc m r 27 := by
  intro o L a a0 w ho hall h0 hS hC
  have ho1 := at_op (q := Op.load 25 (Operand.tmp 29)) (by kernel_rfl) ho
  have hx : a.eval (.tmp 29) = .pointer (some ⟨C, 11, none⟩) := hS.arg (p := 26) (d := 29) ho hall (by kernel_rfl) (by kernel_rfl)
  have hc : w.cell? ⟨C, 11, none⟩ = some (.slice la ln lc) := (cell_of_row _ _ 11 _ _ _ hC).trans (cw_11 ..)
  show _ = Result.ok (Next.value (.slice la ln lc)) w
  unfold execOp
  simp only [ho1, hx]
  go_simp
theorem g19_28 (C : Nat) (b0 : Bool) (b1 : Bool) (b2 : Bool) (b3 : Bool) (b4 : Bool) (b5 : Bool) (b6 : Bool) (b7 : Bool) (b8 : Bool) (b9 : Bool) (b10 : Bool) (env : ByteArray) (f : Int) (g : Int) (h : Int) (la : Option Addr) (ln lc : Nat) (m r : Option Addr) : Good19 C b0 b1 b2 b3 b4 b5 b6 b7 b8 b9 b10 env f g h la ln lc m r 28 := by
  intro o L a a0 w ho hall h0 hS hC
  have ho1 := at_op (q := Op.move (Operand.tmp 0)) (by kernel_rfl) ho
  have hx : a.eval (.tmp 0) = .pointer (some ⟨C, 0, none⟩) := (hS.out (by kernel_rfl)).trans h0
  exact k_move _ ho1 hx
theorem g19_29 (C : Nat) (b0 : Bool) (b1 : Bool) (b2 : Bool) (b3 : Bool) (b4 : Bool) (b5 : Bool) (b6 : Bool) (b7 : Bool) (b8 : Bool) (b9 : Bool) (b10 : Bool) (env : ByteArray) (f : Int) (g : Int) (h : Int) (la : Option Addr) (ln lc : Nat) (m r : Option Addr) : Good19 C b0 b1 b2 b3 b4 b5 b6 b7 b8 b9 b10 env f g h la ln lc m r 29 := by
  intro o L a a0 w ho hall h0 hS hC
  have ho1 := at_op (q := Op.nilCheck (Operand.tmp 31)) (by kernel_rfl) ho
  have hx : a.eval (.tmp 31) = .pointer (some ⟨C, 0, none⟩) := hS.arg (p := 28) (d := 31) ho hall (by kernel_rfl) (by kernel_rfl)
  show _ = Result.ok (Next.value (.pointer (some ⟨C, 0, none⟩))) w
  unfold execOp
  simp only [ho1, hx]
  go_simp
theorem g19_30 (C : Nat) (b0 : Bool) (b1 : Bool) (b2 : Bool) (b3 : Bool) (b4 : Bool) (b5 : Bool) (b6 : Bool) (b7 : Bool) (b8 : Bool) (b9 : Bool) (b10 : Bool) (env : ByteArray) (f : Int) (g : Int) (h : Int) (la : Option Addr) (ln lc : Nat) (m r : Option Addr) : Good19 C b0 b1 b2 b3 b4 b5 b6 b7 b8 b9 b10 env f g h la ln lc m r 30 := by
  intro o L a a0 w ho hall h0 hS hC
  have ho1 := at_op (q := Op.fieldAddr 97 (Operand.tmp 32) 42) (by kernel_rfl) ho
  have hx : a.eval (.tmp 32) = .pointer (some ⟨C, 0, none⟩) := hS.arg (p := 29) (d := 32) ho hall (by kernel_rfl) (by kernel_rfl)
  show _ = Result.ok (Next.value (.pointer (some ⟨C, 59, none⟩))) w
  unfold execOp
  simp only [ho1, hx]
  go_simp
theorem g19_31 (C : Nat) (b0 : Bool) (b1 : Bool) (b2 : Bool) (b3 : Bool) (b4 : Bool) (b5 : Bool) (b6 : Bool) (b7 : Bool) (b8 : Bool) (b9 : Bool) (b10 : Bool) (env : ByteArray) (f : Int) (g : Int) (h : Int) (la : Option Addr) (ln lc : Nat) (m r : Option Addr) : Good19 C b0 b1 b2 b3 b4 b5 b6 b7 b8 b9 b10 env f g h la ln lc m r 31 := by
  intro o L a a0 w ho hall h0 hS hC
  have ho1 := at_op (q := Op.load 45 (Operand.tmp 33)) (by kernel_rfl) ho
  have hx : a.eval (.tmp 33) = .pointer (some ⟨C, 59, none⟩) := hS.arg (p := 30) (d := 33) ho hall (by kernel_rfl) (by kernel_rfl)
  have hc : w.cell? ⟨C, 59, none⟩ = some (.int .u64 f) := (cell_of_row _ _ 59 _ _ _ hC).trans (cw_59 ..)
  show _ = Result.ok (Next.value (.int .u64 f)) w
  unfold execOp
  simp only [ho1, hx]
  go_simp
theorem g19_32 (C : Nat) (b0 : Bool) (b1 : Bool) (b2 : Bool) (b3 : Bool) (b4 : Bool) (b5 : Bool) (b6 : Bool) (b7 : Bool) (b8 : Bool) (b9 : Bool) (b10 : Bool) (env : ByteArray) (f : Int) (g : Int) (h : Int) (la : Option Addr) (ln lc : Nat) (m r : Option Addr) : Good19 C b0 b1 b2 b3 b4 b5 b6 b7 b8 b9 b10 env f g h la ln lc m r 32 := by
  intro o L a a0 w ho hall h0 hS hC
  have ho1 := at_op (q := Op.move (Operand.tmp 0)) (by kernel_rfl) ho
  have hx : a.eval (.tmp 0) = .pointer (some ⟨C, 0, none⟩) := (hS.out (by kernel_rfl)).trans h0
  exact k_move _ ho1 hx
theorem g19_33 (C : Nat) (b0 : Bool) (b1 : Bool) (b2 : Bool) (b3 : Bool) (b4 : Bool) (b5 : Bool) (b6 : Bool) (b7 : Bool) (b8 : Bool) (b9 : Bool) (b10 : Bool) (env : ByteArray) (f : Int) (g : Int) (h : Int) (la : Option Addr) (ln lc : Nat) (m r : Option Addr) : Good19 C b0 b1 b2 b3 b4 b5 b6 b7 b8 b9 b10 env f g h la ln lc m r 33 := by
  intro o L a a0 w ho hall h0 hS hC
  have ho1 := at_op (q := Op.nilCheck (Operand.tmp 35)) (by kernel_rfl) ho
  have hx : a.eval (.tmp 35) = .pointer (some ⟨C, 0, none⟩) := hS.arg (p := 32) (d := 35) ho hall (by kernel_rfl) (by kernel_rfl)
  show _ = Result.ok (Next.value (.pointer (some ⟨C, 0, none⟩))) w
  unfold execOp
  simp only [ho1, hx]
  go_simp
theorem g19_34 (C : Nat) (b0 : Bool) (b1 : Bool) (b2 : Bool) (b3 : Bool) (b4 : Bool) (b5 : Bool) (b6 : Bool) (b7 : Bool) (b8 : Bool) (b9 : Bool) (b10 : Bool) (env : ByteArray) (f : Int) (g : Int) (h : Int) (la : Option Addr) (ln lc : Nat) (m r : Option Addr) : Good19 C b0 b1 b2 b3 b4 b5 b6 b7 b8 b9 b10 env f g h la ln lc m r 34 := by
  intro o L a a0 w ho hall h0 hS hC
  have ho1 := at_op (q := Op.fieldAddr 97 (Operand.tmp 36) 44) (by kernel_rfl) ho
  have hx : a.eval (.tmp 36) = .pointer (some ⟨C, 0, none⟩) := hS.arg (p := 33) (d := 36) ho hall (by kernel_rfl) (by kernel_rfl)
  show _ = Result.ok (Next.value (.pointer (some ⟨C, 61, none⟩))) w
  unfold execOp
  simp only [ho1, hx]
  go_simp
theorem g19_35 (C : Nat) (b0 : Bool) (b1 : Bool) (b2 : Bool) (b3 : Bool) (b4 : Bool) (b5 : Bool) (b6 : Bool) (b7 : Bool) (b8 : Bool) (b9 : Bool) (b10 : Bool) (env : ByteArray) (f : Int) (g : Int) (h : Int) (la : Option Addr) (ln lc : Nat) (m r : Option Addr) : Good19 C b0 b1 b2 b3 b4 b5 b6 b7 b8 b9 b10 env f g h la ln lc m r 35 := by
  intro o L a a0 w ho hall h0 hS hC
  have ho1 := at_op (q := Op.load 45 (Operand.tmp 37)) (by kernel_rfl) ho
  have hx : a.eval (.tmp 37) = .pointer (some ⟨C, 61, none⟩) := hS.arg (p := 34) (d := 37) ho hall (by kernel_rfl) (by kernel_rfl)
  have hc : w.cell? ⟨C, 61, none⟩ = some (.int .u64 g) := (cell_of_row _ _ 61 _ _ _ hC).trans (cw_61 ..)
  show _ = Result.ok (Next.value (.int .u64 g)) w
  unfold execOp
  simp only [ho1, hx]
  go_simp
theorem g19_36 (C : Nat) (b0 : Bool) (b1 : Bool) (b2 : Bool) (b3 : Bool) (b4 : Bool) (b5 : Bool) (b6 : Bool) (b7 : Bool) (b8 : Bool) (b9 : Bool) (b10 : Bool) (env : ByteArray) (f : Int) (g : Int) (h : Int) (la : Option Addr) (ln lc : Nat) (m r : Option Addr) : Good19 C b0 b1 b2 b3 b4 b5 b6 b7 b8 b9 b10 env f g h la ln lc m r 36 := by
  intro o L a a0 w ho hall h0 hS hC
  have ho1 := at_op (q := Op.move (Operand.tmp 0)) (by kernel_rfl) ho
  have hx : a.eval (.tmp 0) = .pointer (some ⟨C, 0, none⟩) := (hS.out (by kernel_rfl)).trans h0
  exact k_move _ ho1 hx
theorem g19_37 (C : Nat) (b0 : Bool) (b1 : Bool) (b2 : Bool) (b3 : Bool) (b4 : Bool) (b5 : Bool) (b6 : Bool) (b7 : Bool) (b8 : Bool) (b9 : Bool) (b10 : Bool) (env : ByteArray) (f : Int) (g : Int) (h : Int) (la : Option Addr) (ln lc : Nat) (m r : Option Addr) : Good19 C b0 b1 b2 b3 b4 b5 b6 b7 b8 b9 b10 env f g h la ln lc m r 37 := by
  intro o L a a0 w ho hall h0 hS hC
  have ho1 := at_op (q := Op.nilCheck (Operand.tmp 39)) (by kernel_rfl) ho
  have hx : a.eval (.tmp 39) = .pointer (some ⟨C, 0, none⟩) := hS.arg (p := 36) (d := 39) ho hall (by kernel_rfl) (by kernel_rfl)
  show _ = Result.ok (Next.value (.pointer (some ⟨C, 0, none⟩))) w
  unfold execOp
  simp only [ho1, hx]
  go_simp
theorem g19_38 (C : Nat) (b0 : Bool) (b1 : Bool) (b2 : Bool) (b3 : Bool) (b4 : Bool) (b5 : Bool) (b6 : Bool) (b7 : Bool) (b8 : Bool) (b9 : Bool) (b10 : Bool) (env : ByteArray) (f : Int) (g : Int) (h : Int) (la : Option Addr) (ln lc : Nat) (m r : Option Addr) : Good19 C b0 b1 b2 b3 b4 b5 b6 b7 b8 b9 b10 env f g h la ln lc m r 38 := by
  intro o L a a0 w ho hall h0 hS hC
  have ho1 := at_op (q := Op.fieldAddr 97 (Operand.tmp 40) 45) (by kernel_rfl) ho
  have hx : a.eval (.tmp 40) = .pointer (some ⟨C, 0, none⟩) := hS.arg (p := 37) (d := 40) ho hall (by kernel_rfl) (by kernel_rfl)
  show _ = Result.ok (Next.value (.pointer (some ⟨C, 62, none⟩))) w
  unfold execOp
  simp only [ho1, hx]
  go_simp
theorem g19_39 (C : Nat) (b0 : Bool) (b1 : Bool) (b2 : Bool) (b3 : Bool) (b4 : Bool) (b5 : Bool) (b6 : Bool) (b7 : Bool) (b8 : Bool) (b9 : Bool) (b10 : Bool) (env : ByteArray) (f : Int) (g : Int) (h : Int) (la : Option Addr) (ln lc : Nat) (m r : Option Addr) : Good19 C b0 b1 b2 b3 b4 b5 b6 b7 b8 b9 b10 env f g h la ln lc m r 39 := by
  intro o L a a0 w ho hall h0 hS hC
  have ho1 := at_op (q := Op.load 45 (Operand.tmp 41)) (by kernel_rfl) ho
  have hx : a.eval (.tmp 41) = .pointer (some ⟨C, 62, none⟩) := hS.arg (p := 38) (d := 41) ho hall (by kernel_rfl) (by kernel_rfl)
  have hc : w.cell? ⟨C, 62, none⟩ = some (.int .u64 h) := (cell_of_row _ _ 62 _ _ _ hC).trans (cw_62 ..)
  show _ = Result.ok (Next.value (.int .u64 h)) w
  unfold execOp
  simp only [ho1, hx]
  go_simp
theorem g19_40 (C : Nat) (b0 : Bool) (b1 : Bool) (b2 : Bool) (b3 : Bool) (b4 : Bool) (b5 : Bool) (b6 : Bool) (b7 : Bool) (b8 : Bool) (b9 : Bool) (b10 : Bool) (env : ByteArray) (f : Int) (g : Int) (h : Int) (la : Option Addr) (ln lc : Nat) (m r : Option Addr) : Good19 C b0 b1 b2 b3 b4 b5 b6 b7 b8 b9 b10 env f g h la ln lc m r 40 := by
  intro o L a a0 w ho hall h0 hS hC
  have ho1 := at_op (q := Op.move (Operand.tmp 0)) (by kernel_rfl) ho
  have hx : a.eval (.tmp 0) = .pointer (some ⟨C, 0, none⟩) := (hS.out (by kernel_rfl)).trans h0
  exact k_move _ ho1 hx
theorem g19_41 (C : Nat) (b0 : Bool) (b1 : Bool) (b2 : Bool) (b3 : Bool) (b4 : Bool) (b5 : Bool) (b6 : Bool) (b7 : Bool) (b8 : Bool) (b9 : Bool) (b10 : Bool) (env : ByteArray) (f : Int) (g : Int) (h : Int) (la : Option Addr) (ln lc : Nat) (m r : Option Addr) : Good19 C b0 b1 b2 b3 b4 b5 b6 b7 b8 b9 b10 env f g h la ln lc m r 41 := by
  intro o L a a0 w ho hall h0 hS hC
  have ho1 := at_op (q := Op.nilCheck (Operand.tmp 43)) (by kernel_rfl) ho
  have hx : a.eval (.tmp 43) = .pointer (some ⟨C, 0, none⟩) := hS.arg (p := 40) (d := 43) ho hall (by kernel_rfl) (by kernel_rfl)
  show _ = Result.ok (Next.value (.pointer (some ⟨C, 0, none⟩))) w
  unfold execOp
  simp only [ho1, hx]
  go_simp
theorem g19_42 (C : Nat) (b0 : Bool) (b1 : Bool) (b2 : Bool) (b3 : Bool) (b4 : Bool) (b5 : Bool) (b6 : Bool) (b7 : Bool) (b8 : Bool) (b9 : Bool) (b10 : Bool) (env : ByteArray) (f : Int) (g : Int) (h : Int) (la : Option Addr) (ln lc : Nat) (m r : Option Addr) : Good19 C b0 b1 b2 b3 b4 b5 b6 b7 b8 b9 b10 env f g h la ln lc m r 42 := by
  intro o L a a0 w ho hall h0 hS hC
  have ho1 := at_op (q := Op.fieldAddr 97 (Operand.tmp 44) 7) (by kernel_rfl) ho
  have hx : a.eval (.tmp 44) = .pointer (some ⟨C, 0, none⟩) := hS.arg (p := 41) (d := 44) ho hall (by kernel_rfl) (by kernel_rfl)
  show _ = Result.ok (Next.value (.pointer (some ⟨C, 10, none⟩))) w
  unfold execOp
  simp only [ho1, hx]
  go_simp
theorem g19_43 (C : Nat) (b0 : Bool) (b1 : Bool) (b2 : Bool) (b3 : Bool) (b4 : Bool) (b5 : Bool) (b6 : Bool) (b7 : Bool) (b8 : Bool) (b9 : Bool) (b10 : Bool) (env : ByteArray) (f : Int) (g : Int) (h : Int) (la : Option Addr) (ln lc : Nat) (m r : Option Addr) : Good19 C b0 b1 b2 b3 b4 b5 b6 b7 b8 b9 b10 env f g h la ln lc m r 43 := by
  intro o L a a0 w ho hall h0 hS hC
  have ho1 := at_op (q := Op.load 9 (Operand.tmp 45)) (by kernel_rfl) ho
  have hx : a.eval (.tmp 45) = .pointer (some ⟨C, 10, none⟩) := hS.arg (p := 42) (d := 45) ho hall (by kernel_rfl) (by kernel_rfl)
  have hc : w.cell? ⟨C, 10, none⟩ = some (.string env) := (cell_of_row _ _ 10 _ _ _ hC).trans (cw_10 ..)
  show _ = Result.ok (Next.value (.string env)) w
  unfold execOp
  simp only [ho1, hx]
  go_simp
theorem g19_44 (C : Nat) (b0 : Bool) (b1 : Bool) (b2 : Bool) (b3 : Bool) (b4 : Bool) (b5 : Bool) (b6 : Bool) (b7 : Bool) (b8 : Bool) (b9 : Bool) (b10 : Bool) (env : ByteArray) (f : Int) (g : Int) (h : Int) (la : Option Addr) (ln lc : Nat) (m r : Option Addr) : Good19 C b0 b1 b2 b3 b4 b5 b6 b7 b8 b9 b10 env f g h la ln lc m r 44 := by
  intro o L a a0 w ho hall h0 hS hC
  have ho1 := at_op (q := Op.move (Operand.tmp 0)) (by kernel_rfl) ho
  have hx : a.eval (.tmp 0) = .pointer (some ⟨C, 0, none⟩) := (hS.out (by kernel_rfl)).trans h0
  exact k_move _ ho1 hx
theorem g19_45 (C : Nat) (b0 : Bool) (b1 : Bool) (b2 : Bool) (b3 : Bool) (b4 : Bool) (b5 : Bool) (b6 : Bool) (b7 : Bool) (b8 : Bool) (b9 : Bool) (b10 : Bool) (env : ByteArray) (f : Int) (g : Int) (h : Int) (la : Option Addr) (ln lc : Nat) (m r : Option Addr) : Good19 C b0 b1 b2 b3 b4 b5 b6 b7 b8 b9 b10 env f g h la ln lc m r 45 := by
  intro o L a a0 w ho hall h0 hS hC
  have ho1 := at_op (q := Op.nilCheck (Operand.tmp 47)) (by kernel_rfl) ho
  have hx : a.eval (.tmp 47) = .pointer (some ⟨C, 0, none⟩) := hS.arg (p := 44) (d := 47) ho hall (by kernel_rfl) (by kernel_rfl)
  show _ = Result.ok (Next.value (.pointer (some ⟨C, 0, none⟩))) w
  unfold execOp
  simp only [ho1, hx]
  go_simp
theorem g19_46 (C : Nat) (b0 : Bool) (b1 : Bool) (b2 : Bool) (b3 : Bool) (b4 : Bool) (b5 : Bool) (b6 : Bool) (b7 : Bool) (b8 : Bool) (b9 : Bool) (b10 : Bool) (env : ByteArray) (f : Int) (g : Int) (h : Int) (la : Option Addr) (ln lc : Nat) (m r : Option Addr) : Good19 C b0 b1 b2 b3 b4 b5 b6 b7 b8 b9 b10 env f g h la ln lc m r 46 := by
  intro o L a a0 w ho hall h0 hS hC
  have ho1 := at_op (q := Op.fieldAddr 97 (Operand.tmp 48) 48) (by kernel_rfl) ho
  have hx : a.eval (.tmp 48) = .pointer (some ⟨C, 0, none⟩) := hS.arg (p := 45) (d := 48) ho hall (by kernel_rfl) (by kernel_rfl)
  show _ = Result.ok (Next.value (.pointer (some ⟨C, 65, none⟩))) w
  unfold execOp
  simp only [ho1, hx]
  go_simp
theorem g19_47 (C : Nat) (b0 : Bool) (b1 : Bool) (b2 : Bool) (b3 : Bool) (b4 : Bool) (b5 : Bool) (b6 : Bool) (b7 : Bool) (b8 : Bool) (b9 : Bool) (b10 : Bool) (env : ByteArray) (f : Int) (g : Int) (h : Int) (la : Option Addr) (ln lc : Nat) (m r : Option Addr) : Good19 C b0 b1 b2 b3 b4 b5 b6 b7 b8 b9 b10 env f g h la ln lc m r 47 := by
  intro o L a a0 w ho hall h0 hS hC
  have ho1 := at_op (q := Op.load 52 (Operand.tmp 49)) (by kernel_rfl) ho
  have hx : a.eval (.tmp 49) = .pointer (some ⟨C, 65, none⟩) := hS.arg (p := 46) (d := 49) ho hall (by kernel_rfl) (by kernel_rfl)
  have hr : w.rangeAt C 65 zts.toList := by have := World.rangeAt_of_block hC 65 8; rw [cw_ts] at this; exact this
  exact k_row 52 _ ho1 C 65 hx zts hr _ Try.underlying52 rfl (by rw [zts_size]; kernel_rfl)
theorem g19_48 (C : Nat) (b0 : Bool) (b1 : Bool) (b2 : Bool) (b3 : Bool) (b4 : Bool) (b5 : Bool) (b6 : Bool) (b7 : Bool) (b8 : Bool) (b9 : Bool) (b10 : Bool) (env : ByteArray) (f : Int) (g : Int) (h : Int) (la : Option Addr) (ln lc : Nat) (m r : Option Addr) : Good19 C b0 b1 b2 b3 b4 b5 b6 b7 b8 b9 b10 env f g h la ln lc m r 48 := by
  intro o L a a0 w ho hall h0 hS hC
  have ho1 := at_op (q := Op.move (Operand.tmp 0)) (by kernel_rfl) ho
  have hx : a.eval (.tmp 0) = .pointer (some ⟨C, 0, none⟩) := (hS.out (by kernel_rfl)).trans h0
  exact k_move _ ho1 hx
theorem g19_49 (C : Nat) (b0 : Bool) (b1 : Bool) (b2 : Bool) (b3 : Bool) (b4 : Bool) (b5 : Bool) (b6 : Bool) (b7 : Bool) (b8 : Bool) (b9 : Bool) (b10 : Bool) (env : ByteArray) (f : Int) (g : Int) (h : Int) (la : Option Addr) (ln lc : Nat) (m r : Option Addr) : Good19 C b0 b1 b2 b3 b4 b5 b6 b7 b8 b9 b10 env f g h la ln lc m r 49 := by
  intro o L a a0 w ho hall h0 hS hC
  have ho1 := at_op (q := Op.nilCheck (Operand.tmp 51)) (by kernel_rfl) ho
  have hx : a.eval (.tmp 51) = .pointer (some ⟨C, 0, none⟩) := hS.arg (p := 48) (d := 51) ho hall (by kernel_rfl) (by kernel_rfl)
  show _ = Result.ok (Next.value (.pointer (some ⟨C, 0, none⟩))) w
  unfold execOp
  simp only [ho1, hx]
  go_simp
theorem g19_50 (C : Nat) (b0 : Bool) (b1 : Bool) (b2 : Bool) (b3 : Bool) (b4 : Bool) (b5 : Bool) (b6 : Bool) (b7 : Bool) (b8 : Bool) (b9 : Bool) (b10 : Bool) (env : ByteArray) (f : Int) (g : Int) (h : Int) (la : Option Addr) (ln lc : Nat) (m r : Option Addr) : Good19 C b0 b1 b2 b3 b4 b5 b6 b7 b8 b9 b10 env f g h la ln lc m r 50 := by
  intro o L a a0 w ho hall h0 hS hC
  have ho1 := at_op (q := Op.fieldAddr 97 (Operand.tmp 52) 49) (by kernel_rfl) ho
  have hx : a.eval (.tmp 52) = .pointer (some ⟨C, 0, none⟩) := hS.arg (p := 49) (d := 52) ho hall (by kernel_rfl) (by kernel_rfl)
  show _ = Result.ok (Next.value (.pointer (some ⟨C, 73, none⟩))) w
  unfold execOp
  simp only [ho1, hx]
  go_simp
theorem g19_51 (C : Nat) (b0 : Bool) (b1 : Bool) (b2 : Bool) (b3 : Bool) (b4 : Bool) (b5 : Bool) (b6 : Bool) (b7 : Bool) (b8 : Bool) (b9 : Bool) (b10 : Bool) (env : ByteArray) (f : Int) (g : Int) (h : Int) (la : Option Addr) (ln lc : Nat) (m r : Option Addr) : Good19 C b0 b1 b2 b3 b4 b5 b6 b7 b8 b9 b10 env f g h la ln lc m r 51 := by
  intro o L a a0 w ho hall h0 hS hC
  have ho1 := at_op (q := Op.load 53 (Operand.tmp 53)) (by kernel_rfl) ho
  have hx : a.eval (.tmp 53) = .pointer (some ⟨C, 73, none⟩) := hS.arg (p := 50) (d := 53) ho hall (by kernel_rfl) (by kernel_rfl)
  have hc : w.cell? ⟨C, 73, none⟩ = some (.int .u8 0) := (cell_of_row _ _ 73 _ _ _ hC).trans (cw_73 ..)
  show _ = Result.ok (Next.value (.int .u8 0)) w
  unfold execOp
  simp only [ho1, hx]
  go_simp
theorem g19_52 (C : Nat) (b0 : Bool) (b1 : Bool) (b2 : Bool) (b3 : Bool) (b4 : Bool) (b5 : Bool) (b6 : Bool) (b7 : Bool) (b8 : Bool) (b9 : Bool) (b10 : Bool) (env : ByteArray) (f : Int) (g : Int) (h : Int) (la : Option Addr) (ln lc : Nat) (m r : Option Addr) : Good19 C b0 b1 b2 b3 b4 b5 b6 b7 b8 b9 b10 env f g h la ln lc m r 52 := by
  intro o L a a0 w ho hall h0 hS hC
  have ho1 := at_op (q := Op.move (Operand.tmp 0)) (by kernel_rfl) ho
  have hx : a.eval (.tmp 0) = .pointer (some ⟨C, 0, none⟩) := (hS.out (by kernel_rfl)).trans h0
  exact k_move _ ho1 hx
theorem g19_53 (C : Nat) (b0 : Bool) (b1 : Bool) (b2 : Bool) (b3 : Bool) (b4 : Bool) (b5 : Bool) (b6 : Bool) (b7 : Bool) (b8 : Bool) (b9 : Bool) (b10 : Bool) (env : ByteArray) (f : Int) (g : Int) (h : Int) (la : Option Addr) (ln lc : Nat) (m r : Option Addr) : Good19 C b0 b1 b2 b3 b4 b5 b6 b7 b8 b9 b10 env f g h la ln lc m r 53 := by
  intro o L a a0 w ho hall h0 hS hC
  have ho1 := at_op (q := Op.nilCheck (Operand.tmp 55)) (by kernel_rfl) ho
  have hx : a.eval (.tmp 55) = .pointer (some ⟨C, 0, none⟩) := hS.arg (p := 52) (d := 55) ho hall (by kernel_rfl) (by kernel_rfl)
  show _ = Result.ok (Next.value (.pointer (some ⟨C, 0, none⟩))) w
  unfold execOp
  simp only [ho1, hx]
  go_simp
theorem g19_54 (C : Nat) (b0 : Bool) (b1 : Bool) (b2 : Bool) (b3 : Bool) (b4 : Bool) (b5 : Bool) (b6 : Bool) (b7 : Bool) (b8 : Bool) (b9 : Bool) (b10 : Bool) (env : ByteArray) (f : Int) (g : Int) (h : Int) (la : Option Addr) (ln lc : Nat) (m r : Option Addr) : Good19 C b0 b1 b2 b3 b4 b5 b6 b7 b8 b9 b10 env f g h la ln lc m r 54 := by
  intro o L a a0 w ho hall h0 hS hC
  have ho1 := at_op (q := Op.fieldAddr 97 (Operand.tmp 56) 73) (by kernel_rfl) ho
  have hx : a.eval (.tmp 56) = .pointer (some ⟨C, 0, none⟩) := hS.arg (p := 53) (d := 56) ho hall (by kernel_rfl) (by kernel_rfl)
  show _ = Result.ok (Next.value (.pointer (some ⟨C, 97, none⟩))) w
  unfold execOp
  simp only [ho1, hx]
  go_simp
theorem g19_55 (C : Nat) (b0 : Bool) (b1 : Bool) (b2 : Bool) (b3 : Bool) (b4 : Bool) (b5 : Bool) (b6 : Bool) (b7 : Bool) (b8 : Bool) (b9 : Bool) (b10 : Bool) (env : ByteArray) (f : Int) (g : Int) (h : Int) (la : Option Addr) (ln lc : Nat) (m r : Option Addr) : Good19 C b0 b1 b2 b3 b4 b5 b6 b7 b8 b9 b10 env f g h la ln lc m r 55 := by
  intro o L a a0 w ho hall h0 hS hC
  have ho1 := at_op (q := Op.load 54 (Operand.tmp 57)) (by kernel_rfl) ho
  have hx : a.eval (.tmp 57) = .pointer (some ⟨C, 97, none⟩) := hS.arg (p := 54) (d := 57) ho hall (by kernel_rfl) (by kernel_rfl)
  have hc : w.cell? ⟨C, 97, none⟩ = some (.int .u8 0) := (cell_of_row _ _ 97 _ _ _ hC).trans (cw_97 ..)
  show _ = Result.ok (Next.value (.int .u8 0)) w
  unfold execOp
  simp only [ho1, hx]
  go_simp
theorem g19_56 (C : Nat) (b0 : Bool) (b1 : Bool) (b2 : Bool) (b3 : Bool) (b4 : Bool) (b5 : Bool) (b6 : Bool) (b7 : Bool) (b8 : Bool) (b9 : Bool) (b10 : Bool) (env : ByteArray) (f : Int) (g : Int) (h : Int) (la : Option Addr) (ln lc : Nat) (m r : Option Addr) : Good19 C b0 b1 b2 b3 b4 b5 b6 b7 b8 b9 b10 env f g h la ln lc m r 56 := by
  intro o L a a0 w ho hall h0 hS hC
  have ho1 := at_op (q := Op.move (Operand.tmp 0)) (by kernel_rfl) ho
  have hx : a.eval (.tmp 0) = .pointer (some ⟨C, 0, none⟩) := (hS.out (by kernel_rfl)).trans h0
  exact k_move _ ho1 hx
theorem g19_57 (C : Nat) (b0 : Bool) (b1 : Bool) (b2 : Bool) (b3 : Bool) (b4 : Bool) (b5 : Bool) (b6 : Bool) (b7 : Bool) (b8 : Bool) (b9 : Bool) (b10 : Bool) (env : ByteArray) (f : Int) (g : Int) (h : Int) (la : Option Addr) (ln lc : Nat) (m r : Option Addr) : Good19 C b0 b1 b2 b3 b4 b5 b6 b7 b8 b9 b10 env f g h la ln lc m r 57 := by
  intro o L a a0 w ho hall h0 hS hC
  have ho1 := at_op (q := Op.nilCheck (Operand.tmp 59)) (by kernel_rfl) ho
  have hx : a.eval (.tmp 59) = .pointer (some ⟨C, 0, none⟩) := hS.arg (p := 56) (d := 59) ho hall (by kernel_rfl) (by kernel_rfl)
  show _ = Result.ok (Next.value (.pointer (some ⟨C, 0, none⟩))) w
  unfold execOp
  simp only [ho1, hx]
  go_simp
theorem g19_58 (C : Nat) (b0 : Bool) (b1 : Bool) (b2 : Bool) (b3 : Bool) (b4 : Bool) (b5 : Bool) (b6 : Bool) (b7 : Bool) (b8 : Bool) (b9 : Bool) (b10 : Bool) (env : ByteArray) (f : Int) (g : Int) (h : Int) (la : Option Addr) (ln lc : Nat) (m r : Option Addr) : Good19 C b0 b1 b2 b3 b4 b5 b6 b7 b8 b9 b10 env f g h la ln lc m r 58 := by
  intro o L a a0 w ho hall h0 hS hC
  have ho1 := at_op (q := Op.fieldAddr 97 (Operand.tmp 60) 74) (by kernel_rfl) ho
  have hx : a.eval (.tmp 60) = .pointer (some ⟨C, 0, none⟩) := hS.arg (p := 57) (d := 60) ho hall (by kernel_rfl) (by kernel_rfl)
  show _ = Result.ok (Next.value (.pointer (some ⟨C, 98, none⟩))) w
  unfold execOp
  simp only [ho1, hx]
  go_simp
theorem g19_59 (C : Nat) (b0 : Bool) (b1 : Bool) (b2 : Bool) (b3 : Bool) (b4 : Bool) (b5 : Bool) (b6 : Bool) (b7 : Bool) (b8 : Bool) (b9 : Bool) (b10 : Bool) (env : ByteArray) (f : Int) (g : Int) (h : Int) (la : Option Addr) (ln lc : Nat) (m r : Option Addr) : Good19 C b0 b1 b2 b3 b4 b5 b6 b7 b8 b9 b10 env f g h la ln lc m r 59 := by
  intro o L a a0 w ho hall h0 hS hC
  have ho1 := at_op (q := Op.load 55 (Operand.tmp 61)) (by kernel_rfl) ho
  have hx : a.eval (.tmp 61) = .pointer (some ⟨C, 98, none⟩) := hS.arg (p := 58) (d := 61) ho hall (by kernel_rfl) (by kernel_rfl)
  have hc : w.cell? ⟨C, 98, none⟩ = some (.int .u8 0) := (cell_of_row _ _ 98 _ _ _ hC).trans (cw_98 ..)
  show _ = Result.ok (Next.value (.int .u8 0)) w
  unfold execOp
  simp only [ho1, hx]
  go_simp
theorem g19_60 (C : Nat) (b0 : Bool) (b1 : Bool) (b2 : Bool) (b3 : Bool) (b4 : Bool) (b5 : Bool) (b6 : Bool) (b7 : Bool) (b8 : Bool) (b9 : Bool) (b10 : Bool) (env : ByteArray) (f : Int) (g : Int) (h : Int) (la : Option Addr) (ln lc : Nat) (m r : Option Addr) : Good19 C b0 b1 b2 b3 b4 b5 b6 b7 b8 b9 b10 env f g h la ln lc m r 60 := by
  intro o L a a0 w ho hall h0 hS hC
  have ho1 := at_op (q := Op.move (Operand.tmp 0)) (by kernel_rfl) ho
  have hx : a.eval (.tmp 0) = .pointer (some ⟨C, 0, none⟩) := (hS.out (by kernel_rfl)).trans h0
  exact k_move _ ho1 hx
theorem g19_61 (C : Nat) (b0 : Bool) (b1 : Bool) (b2 : Bool) (b3 : Bool) (b4 : Bool) (b5 : Bool) (b6 : Bool) (b7 : Bool) (b8 : Bool) (b9 : Bool) (b10 : Bool) (env : ByteArray) (f : Int) (g : Int) (h : Int) (la : Option Addr) (ln lc : Nat) (m r : Option Addr) : Good19 C b0 b1 b2 b3 b4 b5 b6 b7 b8 b9 b10 env f g h la ln lc m r 61 := by
  intro o L a a0 w ho hall h0 hS hC
  have ho1 := at_op (q := Op.nilCheck (Operand.tmp 63)) (by kernel_rfl) ho
  have hx : a.eval (.tmp 63) = .pointer (some ⟨C, 0, none⟩) := hS.arg (p := 60) (d := 63) ho hall (by kernel_rfl) (by kernel_rfl)
  show _ = Result.ok (Next.value (.pointer (some ⟨C, 0, none⟩))) w
  unfold execOp
  simp only [ho1, hx]
  go_simp
theorem g19_62 (C : Nat) (b0 : Bool) (b1 : Bool) (b2 : Bool) (b3 : Bool) (b4 : Bool) (b5 : Bool) (b6 : Bool) (b7 : Bool) (b8 : Bool) (b9 : Bool) (b10 : Bool) (env : ByteArray) (f : Int) (g : Int) (h : Int) (la : Option Addr) (ln lc : Nat) (m r : Option Addr) : Good19 C b0 b1 b2 b3 b4 b5 b6 b7 b8 b9 b10 env f g h la ln lc m r 62 := by
  intro o L a a0 w ho hall h0 hS hC
  have ho1 := at_op (q := Op.fieldAddr 97 (Operand.tmp 64) 0) (by kernel_rfl) ho
  have hx : a.eval (.tmp 64) = .pointer (some ⟨C, 0, none⟩) := hS.arg (p := 61) (d := 64) ho hall (by kernel_rfl) (by kernel_rfl)
  show _ = Result.ok (Next.value (.pointer (some ⟨C, 0, none⟩))) w
  unfold execOp
  simp only [ho1, hx]
  go_simp
theorem g19_63 (C : Nat) (b0 : Bool) (b1 : Bool) (b2 : Bool) (b3 : Bool) (b4 : Bool) (b5 : Bool) (b6 : Bool) (b7 : Bool) (b8 : Bool) (b9 : Bool) (b10 : Bool) (env : ByteArray) (f : Int) (g : Int) (h : Int) (la : Option Addr) (ln lc : Nat) (m r : Option Addr) : Good19 C b0 b1 b2 b3 b4 b5 b6 b7 b8 b9 b10 env f g h la ln lc m r 63 := by
  intro o L a a0 w ho hall h0 hS hC
  have ho1 := at_op (q := Op.load 43 (Operand.tmp 65)) (by kernel_rfl) ho
  have hx : a.eval (.tmp 65) = .pointer (some ⟨C, 0, none⟩) := hS.arg (p := 62) (d := 65) ho hall (by kernel_rfl) (by kernel_rfl)
  have hr : w.rangeAt C 0 zmt.toList := by have := World.rangeAt_of_block hC 0 4; rw [cw_mt] at this; exact this
  exact k_row 43 _ ho1 C 0 hx zmt hr _ Try.underlying43 rfl (by rw [zmt_size]; kernel_rfl)
theorem g19_64 (C : Nat) (b0 : Bool) (b1 : Bool) (b2 : Bool) (b3 : Bool) (b4 : Bool) (b5 : Bool) (b6 : Bool) (b7 : Bool) (b8 : Bool) (b9 : Bool) (b10 : Bool) (env : ByteArray) (f : Int) (g : Int) (h : Int) (la : Option Addr) (ln lc : Nat) (m r : Option Addr) : Good19 C b0 b1 b2 b3 b4 b5 b6 b7 b8 b9 b10 env f g h la ln lc m r 64 := by
  intro o L a a0 w ho hall h0 hS hC
  have ho1 := at_op (q := Op.move (Operand.tmp 0)) (by kernel_rfl) ho
  have hx : a.eval (.tmp 0) = .pointer (some ⟨C, 0, none⟩) := (hS.out (by kernel_rfl)).trans h0
  exact k_move _ ho1 hx
theorem g19_65 (C : Nat) (b0 : Bool) (b1 : Bool) (b2 : Bool) (b3 : Bool) (b4 : Bool) (b5 : Bool) (b6 : Bool) (b7 : Bool) (b8 : Bool) (b9 : Bool) (b10 : Bool) (env : ByteArray) (f : Int) (g : Int) (h : Int) (la : Option Addr) (ln lc : Nat) (m r : Option Addr) : Good19 C b0 b1 b2 b3 b4 b5 b6 b7 b8 b9 b10 env f g h la ln lc m r 65 := by
  intro o L a a0 w ho hall h0 hS hC
  have ho1 := at_op (q := Op.nilCheck (Operand.tmp 67)) (by kernel_rfl) ho
  have hx : a.eval (.tmp 67) = .pointer (some ⟨C, 0, none⟩) := hS.arg (p := 64) (d := 67) ho hall (by kernel_rfl) (by kernel_rfl)
  show _ = Result.ok (Next.value (.pointer (some ⟨C, 0, none⟩))) w
  unfold execOp
  simp only [ho1, hx]
  go_simp
theorem g19_66 (C : Nat) (b0 : Bool) (b1 : Bool) (b2 : Bool) (b3 : Bool) (b4 : Bool) (b5 : Bool) (b6 : Bool) (b7 : Bool) (b8 : Bool) (b9 : Bool) (b10 : Bool) (env : ByteArray) (f : Int) (g : Int) (h : Int) (la : Option Addr) (ln lc : Nat) (m r : Option Addr) : Good19 C b0 b1 b2 b3 b4 b5 b6 b7 b8 b9 b10 env f g h la ln lc m r 66 := by
  intro o L a a0 w ho hall h0 hS hC
  have ho1 := at_op (q := Op.fieldAddr 97 (Operand.tmp 68) 67) (by kernel_rfl) ho
  have hx : a.eval (.tmp 68) = .pointer (some ⟨C, 0, none⟩) := hS.arg (p := 65) (d := 68) ho hall (by kernel_rfl) (by kernel_rfl)
  show _ = Result.ok (Next.value (.pointer (some ⟨C, 91, none⟩))) w
  unfold execOp
  simp only [ho1, hx]
  go_simp
theorem g19_67 (C : Nat) (b0 : Bool) (b1 : Bool) (b2 : Bool) (b3 : Bool) (b4 : Bool) (b5 : Bool) (b6 : Bool) (b7 : Bool) (b8 : Bool) (b9 : Bool) (b10 : Bool) (env : ByteArray) (f : Int) (g : Int) (h : Int) (la : Option Addr) (ln lc : Nat) (m r : Option Addr) : Good19 C b0 b1 b2 b3 b4 b5 b6 b7 b8 b9 b10 env f g h la ln lc m r 67 := by
  intro o L a a0 w ho hall h0 hS hC
  have ho1 := at_op (q := Op.load 4 (Operand.tmp 69)) (by kernel_rfl) ho
  have hx : a.eval (.tmp 69) = .pointer (some ⟨C, 91, none⟩) := hS.arg (p := 66) (d := 69) ho hall (by kernel_rfl) (by kernel_rfl)
  have hc : w.cell? ⟨C, 91, none⟩ = some (.bool b0) := (cell_of_row _ _ 91 _ _ _ hC).trans (cw_91 ..)
  show _ = Result.ok (Next.value (.bool b0)) w
  unfold execOp
  simp only [ho1, hx]
  go_simp
theorem g19_68 (C : Nat) (b0 : Bool) (b1 : Bool) (b2 : Bool) (b3 : Bool) (b4 : Bool) (b5 : Bool) (b6 : Bool) (b7 : Bool) (b8 : Bool) (b9 : Bool) (b10 : Bool) (env : ByteArray) (f : Int) (g : Int) (h : Int) (la : Option Addr) (ln lc : Nat) (m r : Option Addr) : Good19 C b0 b1 b2 b3 b4 b5 b6 b7 b8 b9 b10 env f g h la ln lc m r 68 := by
  intro o L a a0 w ho hall h0 hS hC
  have ho1 := at_op (q := Op.move (Operand.tmp 0)) (by kernel_rfl) ho
  have hx : a.eval (.tmp 0) = .pointer (some ⟨C, 0, none⟩) := (hS.out (by kernel_rfl)).trans h0
  exact k_move _ ho1 hx
theorem g19_69 (C : Nat) (b0 : Bool) (b1 : Bool) (b2 : Bool) (b3 : Bool) (b4 : Bool) (b5 : Bool) (b6 : Bool) (b7 : Bool) (b8 : Bool) (b9 : Bool) (b10 : Bool) (env : ByteArray) (f : Int) (g : Int) (h : Int) (la : Option Addr) (ln lc : Nat) (m r : Option Addr) : Good19 C b0 b1 b2 b3 b4 b5 b6 b7 b8 b9 b10 env f g h la ln lc m r 69 := by
  intro o L a a0 w ho hall h0 hS hC
  have ho1 := at_op (q := Op.nilCheck (Operand.tmp 71)) (by kernel_rfl) ho
  have hx : a.eval (.tmp 71) = .pointer (some ⟨C, 0, none⟩) := hS.arg (p := 68) (d := 71) ho hall (by kernel_rfl) (by kernel_rfl)
  show _ = Result.ok (Next.value (.pointer (some ⟨C, 0, none⟩))) w
  unfold execOp
  simp only [ho1, hx]
  go_simp
theorem g19_70 (C : Nat) (b0 : Bool) (b1 : Bool) (b2 : Bool) (b3 : Bool) (b4 : Bool) (b5 : Bool) (b6 : Bool) (b7 : Bool) (b8 : Bool) (b9 : Bool) (b10 : Bool) (env : ByteArray) (f : Int) (g : Int) (h : Int) (la : Option Addr) (ln lc : Nat) (m r : Option Addr) : Good19 C b0 b1 b2 b3 b4 b5 b6 b7 b8 b9 b10 env f g h la ln lc m r 70 := by
  intro o L a a0 w ho hall h0 hS hC
  have ho1 := at_op (q := Op.fieldAddr 97 (Operand.tmp 72) 68) (by kernel_rfl) ho
  have hx : a.eval (.tmp 72) = .pointer (some ⟨C, 0, none⟩) := hS.arg (p := 69) (d := 72) ho hall (by kernel_rfl) (by kernel_rfl)
  show _ = Result.ok (Next.value (.pointer (some ⟨C, 92, none⟩))) w
  unfold execOp
  simp only [ho1, hx]
  go_simp
theorem g19_71 (C : Nat) (b0 : Bool) (b1 : Bool) (b2 : Bool) (b3 : Bool) (b4 : Bool) (b5 : Bool) (b6 : Bool) (b7 : Bool) (b8 : Bool) (b9 : Bool) (b10 : Bool) (env : ByteArray) (f : Int) (g : Int) (h : Int) (la : Option Addr) (ln lc : Nat) (m r : Option Addr) : Good19 C b0 b1 b2 b3 b4 b5 b6 b7 b8 b9 b10 env f g h la ln lc m r 71 := by
  intro o L a a0 w ho hall h0 hS hC
  have ho1 := at_op (q := Op.load 4 (Operand.tmp 73)) (by kernel_rfl) ho
  have hx : a.eval (.tmp 73) = .pointer (some ⟨C, 92, none⟩) := hS.arg (p := 70) (d := 73) ho hall (by kernel_rfl) (by kernel_rfl)
  have hc : w.cell? ⟨C, 92, none⟩ = some (.bool b1) := (cell_of_row _ _ 92 _ _ _ hC).trans (cw_92 ..)
  show _ = Result.ok (Next.value (.bool b1)) w
  unfold execOp
  simp only [ho1, hx]
  go_simp
theorem g19_72 (C : Nat) (b0 : Bool) (b1 : Bool) (b2 : Bool) (b3 : Bool) (b4 : Bool) (b5 : Bool) (b6 : Bool) (b7 : Bool) (b8 : Bool) (b9 : Bool) (b10 : Bool) (env : ByteArray) (f : Int) (g : Int) (h : Int) (la : Option Addr) (ln lc : Nat) (m r : Option Addr) : Good19 C b0 b1 b2 b3 b4 b5 b6 b7 b8 b9 b10 env f g h la ln lc m r 72 := by
  intro o L a a0 w ho hall h0 hS hC
  have ho1 := at_op (q := Op.move (Operand.tmp 0)) (by kernel_rfl) ho
  have hx : a.eval (.tmp 0) = .pointer (some ⟨C, 0, none⟩) := (hS.out (by kernel_rfl)).trans h0
  exact k_move _ ho1 hx
theorem g19_73 (C : Nat) (b0 : Bool) (b1 : Bool) (b2 : Bool) (b3 : Bool) (b4 : Bool) (b5 : Bool) (b6 : Bool) (b7 : Bool) (b8 : Bool) (b9 : Bool) (b10 : Bool) (env : ByteArray) (f : Int) (g : Int) (h : Int) (la : Option Addr) (ln lc : Nat) (m r : Option Addr) : Good19 C b0 b1 b2 b3 b4 b5 b6 b7 b8 b9 b10 env f g h la ln lc m r 73 := by
  intro o L a a0 w ho hall h0 hS hC
  have ho1 := at_op (q := Op.nilCheck (Operand.tmp 75)) (by kernel_rfl) ho
  have hx : a.eval (.tmp 75) = .pointer (some ⟨C, 0, none⟩) := hS.arg (p := 72) (d := 75) ho hall (by kernel_rfl) (by kernel_rfl)
  show _ = Result.ok (Next.value (.pointer (some ⟨C, 0, none⟩))) w
  unfold execOp
  simp only [ho1, hx]
  go_simp
theorem g19_74 (C : Nat) (b0 : Bool) (b1 : Bool) (b2 : Bool) (b3 : Bool) (b4 : Bool) (b5 : Bool) (b6 : Bool) (b7 : Bool) (b8 : Bool) (b9 : Bool) (b10 : Bool) (env : ByteArray) (f : Int) (g : Int) (h : Int) (la : Option Addr) (ln lc : Nat) (m r : Option Addr) : Good19 C b0 b1 b2 b3 b4 b5 b6 b7 b8 b9 b10 env f g h la ln lc m r 74 := by
  intro o L a a0 w ho hall h0 hS hC
  have ho1 := at_op (q := Op.fieldAddr 97 (Operand.tmp 76) 53) (by kernel_rfl) ho
  have hx : a.eval (.tmp 76) = .pointer (some ⟨C, 0, none⟩) := hS.arg (p := 73) (d := 76) ho hall (by kernel_rfl) (by kernel_rfl)
  show _ = Result.ok (Next.value (.pointer (some ⟨C, 77, none⟩))) w
  unfold execOp
  simp only [ho1, hx]
  go_simp
theorem g19_75 (C : Nat) (b0 : Bool) (b1 : Bool) (b2 : Bool) (b3 : Bool) (b4 : Bool) (b5 : Bool) (b6 : Bool) (b7 : Bool) (b8 : Bool) (b9 : Bool) (b10 : Bool) (env : ByteArray) (f : Int) (g : Int) (h : Int) (la : Option Addr) (ln lc : Nat) (m r : Option Addr) : Good19 C b0 b1 b2 b3 b4 b5 b6 b7 b8 b9 b10 env f g h la ln lc m r 75 := by
  intro o L a a0 w ho hall h0 hS hC
  have ho1 := at_op (q := Op.load 4 (Operand.tmp 77)) (by kernel_rfl) ho
  have hx : a.eval (.tmp 77) = .pointer (some ⟨C, 77, none⟩) := hS.arg (p := 74) (d := 77) ho hall (by kernel_rfl) (by kernel_rfl)
  have hc : w.cell? ⟨C, 77, none⟩ = some (.bool b2) := (cell_of_row _ _ 77 _ _ _ hC).trans (cw_77 ..)
  show _ = Result.ok (Next.value (.bool b2)) w
  unfold execOp
  simp only [ho1, hx]
  go_simp
theorem g19_76 (C : Nat) (b0 : Bool) (b1 : Bool) (b2 : Bool) (b3 : Bool) (b4 : Bool) (b5 : Bool) (b6 : Bool) (b7 : Bool) (b8 : Bool) (b9 : Bool) (b10 : Bool) (env : ByteArray) (f : Int) (g : Int) (h : Int) (la : Option Addr) (ln lc : Nat) (m r : Option Addr) : Good19 C b0 b1 b2 b3 b4 b5 b6 b7 b8 b9 b10 env f g h la ln lc m r 76 := by
  intro o L a a0 w ho hall h0 hS hC
  have ho1 := at_op (q := Op.move (Operand.tmp 0)) (by kernel_rfl) ho
  have hx : a.eval (.tmp 0) = .pointer (some ⟨C, 0, none⟩) := (hS.out (by kernel_rfl)).trans h0
  exact k_move _ ho1 hx
theorem g19_77 (C : Nat) (b0 : Bool) (b1 : Bool) (b2 : Bool) (b3 : Bool) (b4 : Bool) (b5 : Bool) (b6 : Bool) (b7 : Bool) (b8 : Bool) (b9 : Bool) (b10 : Bool) (env : ByteArray) (f : Int) (g : Int) (h : Int) (la : Option Addr) (ln lc : Nat) (m r : Option Addr) : Good19 C b0 b1 b2 b3 b4 b5 b6 b7 b8 b9 b10 env f g h la ln lc m r 77 := by
  intro o L a a0 w ho hall h0 hS hC
  have ho1 := at_op (q := Op.nilCheck (Operand.tmp 79)) (by kernel_rfl) ho
  have hx : a.eval (.tmp 79) = .pointer (some ⟨C, 0, none⟩) := hS.arg (p := 76) (d := 79) ho hall (by kernel_rfl) (by kernel_rfl)
  show _ = Result.ok (Next.value (.pointer (some ⟨C, 0, none⟩))) w
  unfold execOp
  simp only [ho1, hx]
  go_simp
theorem g19_78 (C : Nat) (b0 : Bool) (b1 : Bool) (b2 : Bool) (b3 : Bool) (b4 : Bool) (b5 : Bool) (b6 : Bool) (b7 : Bool) (b8 : Bool) (b9 : Bool) (b10 : Bool) (env : ByteArray) (f : Int) (g : Int) (h : Int) (la : Option Addr) (ln lc : Nat) (m r : Option Addr) : Good19 C b0 b1 b2 b3 b4 b5 b6 b7 b8 b9 b10 env f g h la ln lc m r 78 := by
  intro o L a a0 w ho hall h0 hS hC
  have ho1 := at_op (q := Op.fieldAddr 97 (Operand.tmp 80) 52) (by kernel_rfl) ho
  have hx : a.eval (.tmp 80) = .pointer (some ⟨C, 0, none⟩) := hS.arg (p := 77) (d := 80) ho hall (by kernel_rfl) (by kernel_rfl)
  show _ = Result.ok (Next.value (.pointer (some ⟨C, 76, none⟩))) w
  unfold execOp
  simp only [ho1, hx]
  go_simp
theorem g19_79 (C : Nat) (b0 : Bool) (b1 : Bool) (b2 : Bool) (b3 : Bool) (b4 : Bool) (b5 : Bool) (b6 : Bool) (b7 : Bool) (b8 : Bool) (b9 : Bool) (b10 : Bool) (env : ByteArray) (f : Int) (g : Int) (h : Int) (la : Option Addr) (ln lc : Nat) (m r : Option Addr) : Good19 C b0 b1 b2 b3 b4 b5 b6 b7 b8 b9 b10 env f g h la ln lc m r 79 := by
  intro o L a a0 w ho hall h0 hS hC
  have ho1 := at_op (q := Op.load 4 (Operand.tmp 81)) (by kernel_rfl) ho
  have hx : a.eval (.tmp 81) = .pointer (some ⟨C, 76, none⟩) := hS.arg (p := 78) (d := 81) ho hall (by kernel_rfl) (by kernel_rfl)
  have hc : w.cell? ⟨C, 76, none⟩ = some (.bool b3) := (cell_of_row _ _ 76 _ _ _ hC).trans (cw_76 ..)
  show _ = Result.ok (Next.value (.bool b3)) w
  unfold execOp
  simp only [ho1, hx]
  go_simp
theorem g19_80 (C : Nat) (b0 : Bool) (b1 : Bool) (b2 : Bool) (b3 : Bool) (b4 : Bool) (b5 : Bool) (b6 : Bool) (b7 : Bool) (b8 : Bool) (b9 : Bool) (b10 : Bool) (env : ByteArray) (f : Int) (g : Int) (h : Int) (la : Option Addr) (ln lc : Nat) (m r : Option Addr) : Good19 C b0 b1 b2 b3 b4 b5 b6 b7 b8 b9 b10 env f g h la ln lc m r 80 := by
  intro o L a a0 w ho hall h0 hS hC
  have ho1 := at_op (q := Op.move (Operand.tmp 0)) (by kernel_rfl) ho
  have hx : a.eval (.tmp 0) = .pointer (some ⟨C, 0, none⟩) := (hS.out (by kernel_rfl)).trans h0
  exact k_move _ ho1 hx
theorem g19_81 (C : Nat) (b0 : Bool) (b1 : Bool) (b2 : Bool) (b3 : Bool) (b4 : Bool) (b5 : Bool) (b6 : Bool) (b7 : Bool) (b8 : Bool) (b9 : Bool) (b10 : Bool) (env : ByteArray) (f : Int) (g : Int) (h : Int) (la : Option Addr) (ln lc : Nat) (m r : Option Addr) : Good19 C b0 b1 b2 b3 b4 b5 b6 b7 b8 b9 b10 env f g h la ln lc m r 81 := by
  intro o L a a0 w ho hall h0 hS hC
  have ho1 := at_op (q := Op.nilCheck (Operand.tmp 83)) (by kernel_rfl) ho
  have hx : a.eval (.tmp 83) = .pointer (some ⟨C, 0, none⟩) := hS.arg (p := 80) (d := 83) ho hall (by kernel_rfl) (by kernel_rfl)
  show _ = Result.ok (Next.value (.pointer (some ⟨C, 0, none⟩))) w
  unfold execOp
  simp only [ho1, hx]
  go_simp
theorem g19_82 (C : Nat) (b0 : Bool) (b1 : Bool) (b2 : Bool) (b3 : Bool) (b4 : Bool) (b5 : Bool) (b6 : Bool) (b7 : Bool) (b8 : Bool) (b9 : Bool) (b10 : Bool) (env : ByteArray) (f : Int) (g : Int) (h : Int) (la : Option Addr) (ln lc : Nat) (m r : Option Addr) : Good19 C b0 b1 b2 b3 b4 b5 b6 b7 b8 b9 b10 env f g h la ln lc m r 82 := by
  intro o L a a0 w ho hall h0 hS hC
  have ho1 := at_op (q := Op.fieldAddr 97 (Operand.tmp 84) 51) (by kernel_rfl) ho
  have hx : a.eval (.tmp 84) = .pointer (some ⟨C, 0, none⟩) := hS.arg (p := 81) (d := 84) ho hall (by kernel_rfl) (by kernel_rfl)
  show _ = Result.ok (Next.value (.pointer (some ⟨C, 75, none⟩))) w
  unfold execOp
  simp only [ho1, hx]
  go_simp
theorem g19_83 (C : Nat) (b0 : Bool) (b1 : Bool) (b2 : Bool) (b3 : Bool) (b4 : Bool) (b5 : Bool) (b6 : Bool) (b7 : Bool) (b8 : Bool) (b9 : Bool) (b10 : Bool) (env : ByteArray) (f : Int) (g : Int) (h : Int) (la : Option Addr) (ln lc : Nat) (m r : Option Addr) : Good19 C b0 b1 b2 b3 b4 b5 b6 b7 b8 b9 b10 env f g h la ln lc m r 83 := by
  intro o L a a0 w ho hall h0 hS hC
  have ho1 := at_op (q := Op.load 4 (Operand.tmp 85)) (by kernel_rfl) ho
  have hx : a.eval (.tmp 85) = .pointer (some ⟨C, 75, none⟩) := hS.arg (p := 82) (d := 85) ho hall (by kernel_rfl) (by kernel_rfl)
  have hc : w.cell? ⟨C, 75, none⟩ = some (.bool b4) := (cell_of_row _ _ 75 _ _ _ hC).trans (cw_75 ..)
  show _ = Result.ok (Next.value (.bool b4)) w
  unfold execOp
  simp only [ho1, hx]
  go_simp
theorem g19_84 (C : Nat) (b0 : Bool) (b1 : Bool) (b2 : Bool) (b3 : Bool) (b4 : Bool) (b5 : Bool) (b6 : Bool) (b7 : Bool) (b8 : Bool) (b9 : Bool) (b10 : Bool) (env : ByteArray) (f : Int) (g : Int) (h : Int) (la : Option Addr) (ln lc : Nat) (m r : Option Addr) : Good19 C b0 b1 b2 b3 b4 b5 b6 b7 b8 b9 b10 env f g h la ln lc m r 84 := by
  intro o L a a0 w ho hall h0 hS hC
  have ho1 := at_op (q := Op.move (Operand.tmp 0)) (by kernel_rfl) ho
  have hx : a.eval (.tmp 0) = .pointer (some ⟨C, 0, none⟩) := (hS.out (by kernel_rfl)).trans h0
  exact k_move _ ho1 hx
theorem g19_85 (C : Nat) (b0 : Bool) (b1 : Bool) (b2 : Bool) (b3 : Bool) (b4 : Bool) (b5 : Bool) (b6 : Bool) (b7 : Bool) (b8 : Bool) (b9 : Bool) (b10 : Bool) (env : ByteArray) (f : Int) (g : Int) (h : Int) (la : Option Addr) (ln lc : Nat) (m r : Option Addr) : Good19 C b0 b1 b2 b3 b4 b5 b6 b7 b8 b9 b10 env f g h la ln lc m r 85 := by
  intro o L a a0 w ho hall h0 hS hC
  have ho1 := at_op (q := Op.nilCheck (Operand.tmp 87)) (by kernel_rfl) ho
  have hx : a.eval (.tmp 87) = .pointer (some ⟨C, 0, none⟩) := hS.arg (p := 84) (d := 87) ho hall (by kernel_rfl) (by kernel_rfl)
  show _ = Result.ok (Next.value (.pointer (some ⟨C, 0, none⟩))) w
  unfold execOp
  simp only [ho1, hx]
  go_simp
theorem g19_86 (C : Nat) (b0 : Bool) (b1 : Bool) (b2 : Bool) (b3 : Bool) (b4 : Bool) (b5 : Bool) (b6 : Bool) (b7 : Bool) (b8 : Bool) (b9 : Bool) (b10 : Bool) (env : ByteArray) (f : Int) (g : Int) (h : Int) (la : Option Addr) (ln lc : Nat) (m r : Option Addr) : Good19 C b0 b1 b2 b3 b4 b5 b6 b7 b8 b9 b10 env f g h la ln lc m r 86 := by
  intro o L a a0 w ho hall h0 hS hC
  have ho1 := at_op (q := Op.fieldAddr 97 (Operand.tmp 88) 65) (by kernel_rfl) ho
  have hx : a.eval (.tmp 88) = .pointer (some ⟨C, 0, none⟩) := hS.arg (p := 85) (d := 88) ho hall (by kernel_rfl) (by kernel_rfl)
  show _ = Result.ok (Next.value (.pointer (some ⟨C, 89, none⟩))) w
  unfold execOp
  simp only [ho1, hx]
  go_simp
theorem g19_87 (C : Nat) (b0 : Bool) (b1 : Bool) (b2 : Bool) (b3 : Bool) (b4 : Bool) (b5 : Bool) (b6 : Bool) (b7 : Bool) (b8 : Bool) (b9 : Bool) (b10 : Bool) (env : ByteArray) (f : Int) (g : Int) (h : Int) (la : Option Addr) (ln lc : Nat) (m r : Option Addr) : Good19 C b0 b1 b2 b3 b4 b5 b6 b7 b8 b9 b10 env f g h la ln lc m r 87 := by
  intro o L a a0 w ho hall h0 hS hC
  have ho1 := at_op (q := Op.load 4 (Operand.tmp 89)) (by kernel_rfl) ho
  have hx : a.eval (.tmp 89) = .pointer (some ⟨C, 89, none⟩) := hS.arg (p := 86) (d := 89) ho hall (by kernel_rfl) (by kernel_rfl)
  have hc : w.cell? ⟨C, 89, none⟩ = some (.bool b5) := (cell_of_row _ _ 89 _ _ _ hC).trans (cw_89 ..)
  show _ = Result.ok (Next.value (.bool b5)) w
  unfold execOp
  simp only [ho1, hx]
  go_simp
theorem g19_88 (C : Nat) (b0 : Bool) (b1 : Bool) (b2 : Bool) (b3 : Bool) (b4 : Bool) (b5 : Bool) (b6 : Bool) (b7 : Bool) (b8 : Bool) (b9 : Bool) (b10 : Bool) (env : ByteArray) (f : Int) (g : Int) (h : Int) (la : Option Addr) (ln lc : Nat) (m r : Option Addr) : Good19 C b0 b1 b2 b3 b4 b5 b6 b7 b8 b9 b10 env f g h la ln lc m r 88 := by
  intro o L a a0 w ho hall h0 hS hC
  have ho1 := at_op (q := Op.move (Operand.tmp 0)) (by kernel_rfl) ho
  have hx : a.eval (.tmp 0) = .pointer (some ⟨C, 0, none⟩) := (hS.out (by kernel_rfl)).trans h0
  exact k_move _ ho1 hx
theorem g19_89 (C : Nat) (b0 : Bool) (b1 : Bool) (b2 : Bool) (b3 : Bool) (b4 : Bool) (b5 : Bool) (b6 : Bool) (b7 : Bool) (b8 : Bool) (b9 : Bool) (b10 : Bool) (env : ByteArray) (f : Int) (g : Int) (h : Int) (la : Option Addr) (ln lc : Nat) (m r : Option Addr) : Good19 C b0 b1 b2 b3 b4 b5 b6 b7 b8 b9 b10 env f g h la ln lc m r 89 := by
  intro o L a a0 w ho hall h0 hS hC
  have ho1 := at_op (q := Op.nilCheck (Operand.tmp 91)) (by kernel_rfl) ho
  have hx : a.eval (.tmp 91) = .pointer (some ⟨C, 0, none⟩) := hS.arg (p := 88) (d := 91) ho hall (by kernel_rfl) (by kernel_rfl)
  show _ = Result.ok (Next.value (.pointer (some ⟨C, 0, none⟩))) w
  unfold execOp
  simp only [ho1, hx]
  go_simp
theorem g19_90 (C : Nat) (b0 : Bool) (b1 : Bool) (b2 : Bool) (b3 : Bool) (b4 : Bool) (b5 : Bool) (b6 : Bool) (b7 : Bool) (b8 : Bool) (b9 : Bool) (b10 : Bool) (env : ByteArray) (f : Int) (g : Int) (h : Int) (la : Option Addr) (ln lc : Nat) (m r : Option Addr) : Good19 C b0 b1 b2 b3 b4 b5 b6 b7 b8 b9 b10 env f g h la ln lc m r 90 := by
  intro o L a a0 w ho hall h0 hS hC
  have ho1 := at_op (q := Op.fieldAddr 97 (Operand.tmp 92) 66) (by kernel_rfl) ho
  have hx : a.eval (.tmp 92) = .pointer (some ⟨C, 0, none⟩) := hS.arg (p := 89) (d := 92) ho hall (by kernel_rfl) (by kernel_rfl)
  show _ = Result.ok (Next.value (.pointer (some ⟨C, 90, none⟩))) w
  unfold execOp
  simp only [ho1, hx]
  go_simp
theorem g19_91 (C : Nat) (b0 : Bool) (b1 : Bool) (b2 : Bool) (b3 : Bool) (b4 : Bool) (b5 : Bool) (b6 : Bool) (b7 : Bool) (b8 : Bool) (b9 : Bool) (b10 : Bool) (env : ByteArray) (f : Int) (g : Int) (h : Int) (la : Option Addr) (ln lc : Nat) (m r : Option Addr) : Good19 C b0 b1 b2 b3 b4 b5 b6 b7 b8 b9 b10 env f g h la ln lc m r 91 := by
  intro o L a a0 w ho hall h0 hS hC
  have ho1 := at_op (q := Op.load 4 (Operand.tmp 93)) (by kernel_rfl) ho
  have hx : a.eval (.tmp 93) = .pointer (some ⟨C, 90, none⟩) := hS.arg (p := 90) (d := 93) ho hall (by kernel_rfl) (by kernel_rfl)
  have hc : w.cell? ⟨C, 90, none⟩ = some (.bool b6) := (cell_of_row _ _ 90 _ _ _ hC).trans (cw_90 ..)
  show _ = Result.ok (Next.value (.bool b6)) w
  unfold execOp
  simp only [ho1, hx]
  go_simp
theorem g19_92 (C : Nat) (b0 : Bool) (b1 : Bool) (b2 : Bool) (b3 : Bool) (b4 : Bool) (b5 : Bool) (b6 : Bool) (b7 : Bool) (b8 : Bool) (b9 : Bool) (b10 : Bool) (env : ByteArray) (f : Int) (g : Int) (h : Int) (la : Option Addr) (ln lc : Nat) (m r : Option Addr) : Good19 C b0 b1 b2 b3 b4 b5 b6 b7 b8 b9 b10 env f g h la ln lc m r 92 := by
  intro o L a a0 w ho hall h0 hS hC
  have ho1 := at_op (q := Op.move (Operand.tmp 0)) (by kernel_rfl) ho
  have hx : a.eval (.tmp 0) = .pointer (some ⟨C, 0, none⟩) := (hS.out (by kernel_rfl)).trans h0
  exact k_move _ ho1 hx
theorem g19_93 (C : Nat) (b0 : Bool) (b1 : Bool) (b2 : Bool) (b3 : Bool) (b4 : Bool) (b5 : Bool) (b6 : Bool) (b7 : Bool) (b8 : Bool) (b9 : Bool) (b10 : Bool) (env : ByteArray) (f : Int) (g : Int) (h : Int) (la : Option Addr) (ln lc : Nat) (m r : Option Addr) : Good19 C b0 b1 b2 b3 b4 b5 b6 b7 b8 b9 b10 env f g h la ln lc m r 93 := by
  intro o L a a0 w ho hall h0 hS hC
  have ho1 := at_op (q := Op.nilCheck (Operand.tmp 95)) (by kernel_rfl) ho
  have hx : a.eval (.tmp 95) = .pointer (some ⟨C, 0, none⟩) := hS.arg (p := 92) (d := 95) ho hall (by kernel_rfl) (by kernel_rfl)
  show _ = Result.ok (Next.value (.pointer (some ⟨C, 0, none⟩))) w
  unfold execOp
  simp only [ho1, hx]
  go_simp
theorem g19_94 (C : Nat) (b0 : Bool) (b1 : Bool) (b2 : Bool) (b3 : Bool) (b4 : Bool) (b5 : Bool) (b6 : Bool) (b7 : Bool) (b8 : Bool) (b9 : Bool) (b10 : Bool) (env : ByteArray) (f : Int) (g : Int) (h : Int) (la : Option Addr) (ln lc : Nat) (m r : Option Addr) : Good19 C b0 b1 b2 b3 b4 b5 b6 b7 b8 b9 b10 env f g h la ln lc m r 94 := by
  intro o L a a0 w ho hall h0 hS hC
  have ho1 := at_op (q := Op.fieldAddr 97 (Operand.tmp 96) 69) (by kernel_rfl) ho
  have hx : a.eval (.tmp 96) = .pointer (some ⟨C, 0, none⟩) := hS.arg (p := 93) (d := 96) ho hall (by kernel_rfl) (by kernel_rfl)
  show _ = Result.ok (Next.value (.pointer (some ⟨C, 93, none⟩))) w
  unfold execOp
  simp only [ho1, hx]
  go_simp
theorem g19_95 (C : Nat) (b0 : Bool) (b1 : Bool) (b2 : Bool) (b3 : Bool) (b4 : Bool) (b5 : Bool) (b6 : Bool) (b7 : Bool) (b8 : Bool) (b9 : Bool) (b10 : Bool) (env : ByteArray) (f : Int) (g : Int) (h : Int) (la : Option Addr) (ln lc : Nat) (m r : Option Addr) : Good19 C b0 b1 b2 b3 b4 b5 b6 b7 b8 b9 b10 env f g h la ln lc m r 95 := by
  intro o L a a0 w ho hall h0 hS hC
  have ho1 := at_op (q := Op.load 4 (Operand.tmp 97)) (by kernel_rfl) ho
  have hx : a.eval (.tmp 97) = .pointer (some ⟨C, 93, none⟩) := hS.arg (p := 94) (d := 97) ho hall (by kernel_rfl) (by kernel_rfl)
  have hc : w.cell? ⟨C, 93, none⟩ = some (.bool b7) := (cell_of_row _ _ 93 _ _ _ hC).trans (cw_93 ..)
  show _ = Result.ok (Next.value (.bool b7)) w
  unfold execOp
  simp only [ho1, hx]
  go_simp
theorem g19_96 (C : Nat) (b0 : Bool) (b1 : Bool) (b2 : Bool) (b3 : Bool) (b4 : Bool) (b5 : Bool) (b6 : Bool) (b7 : Bool) (b8 : Bool) (b9 : Bool) (b10 : Bool) (env : ByteArray) (f : Int) (g : Int) (h : Int) (la : Option Addr) (ln lc : Nat) (m r : Option Addr) : Good19 C b0 b1 b2 b3 b4 b5 b6 b7 b8 b9 b10 env f g h la ln lc m r 96 := by
  intro o L a a0 w ho hall h0 hS hC
  have ho1 := at_op (q := Op.move (Operand.tmp 0)) (by kernel_rfl) ho
  have hx : a.eval (.tmp 0) = .pointer (some ⟨C, 0, none⟩) := (hS.out (by kernel_rfl)).trans h0
  exact k_move _ ho1 hx
theorem g19_97 (C : Nat) (b0 : Bool) (b1 : Bool) (b2 : Bool) (b3 : Bool) (b4 : Bool) (b5 : Bool) (b6 : Bool) (b7 : Bool) (b8 : Bool) (b9 : Bool) (b10 : Bool) (env : ByteArray) (f : Int) (g : Int) (h : Int) (la : Option Addr) (ln lc : Nat) (m r : Option Addr) : Good19 C b0 b1 b2 b3 b4 b5 b6 b7 b8 b9 b10 env f g h la ln lc m r 97 := by
  intro o L a a0 w ho hall h0 hS hC
  have ho1 := at_op (q := Op.nilCheck (Operand.tmp 99)) (by kernel_rfl) ho
  have hx : a.eval (.tmp 99) = .pointer (some ⟨C, 0, none⟩) := hS.arg (p := 96) (d := 99) ho hall (by kernel_rfl) (by kernel_rfl)
  show _ = Result.ok (Next.value (.pointer (some ⟨C, 0, none⟩))) w
  unfold execOp
  simp only [ho1, hx]
  go_simp
theorem g19_98 (C : Nat) (b0 : Bool) (b1 : Bool) (b2 : Bool) (b3 : Bool) (b4 : Bool) (b5 : Bool) (b6 : Bool) (b7 : Bool) (b8 : Bool) (b9 : Bool) (b10 : Bool) (env : ByteArray) (f : Int) (g : Int) (h : Int) (la : Option Addr) (ln lc : Nat) (m r : Option Addr) : Good19 C b0 b1 b2 b3 b4 b5 b6 b7 b8 b9 b10 env f g h la ln lc m r 98 := by
  intro o L a a0 w ho hall h0 hS hC
  have ho1 := at_op (q := Op.fieldAddr 97 (Operand.tmp 100) 70) (by kernel_rfl) ho
  have hx : a.eval (.tmp 100) = .pointer (some ⟨C, 0, none⟩) := hS.arg (p := 97) (d := 100) ho hall (by kernel_rfl) (by kernel_rfl)
  show _ = Result.ok (Next.value (.pointer (some ⟨C, 94, none⟩))) w
  unfold execOp
  simp only [ho1, hx]
  go_simp
theorem g19_99 (C : Nat) (b0 : Bool) (b1 : Bool) (b2 : Bool) (b3 : Bool) (b4 : Bool) (b5 : Bool) (b6 : Bool) (b7 : Bool) (b8 : Bool) (b9 : Bool) (b10 : Bool) (env : ByteArray) (f : Int) (g : Int) (h : Int) (la : Option Addr) (ln lc : Nat) (m r : Option Addr) : Good19 C b0 b1 b2 b3 b4 b5 b6 b7 b8 b9 b10 env f g h la ln lc m r 99 := by
  intro o L a a0 w ho hall h0 hS hC
  have ho1 := at_op (q := Op.load 4 (Operand.tmp 101)) (by kernel_rfl) ho
  have hx : a.eval (.tmp 101) = .pointer (some ⟨C, 94, none⟩) := hS.arg (p := 98) (d := 101) ho hall (by kernel_rfl) (by kernel_rfl)
  have hc : w.cell? ⟨C, 94, none⟩ = some (.bool b8) := (cell_of_row _ _ 94 _ _ _ hC).trans (cw_94 ..)
  show _ = Result.ok (Next.value (.bool b8)) w
  unfold execOp
  simp only [ho1, hx]
  go_simp
theorem g19_100 (C : Nat) (b0 : Bool) (b1 : Bool) (b2 : Bool) (b3 : Bool) (b4 : Bool) (b5 : Bool) (b6 : Bool) (b7 : Bool) (b8 : Bool) (b9 : Bool) (b10 : Bool) (env : ByteArray) (f : Int) (g : Int) (h : Int) (la : Option Addr) (ln lc : Nat) (m r : Option Addr) : Good19 C b0 b1 b2 b3 b4 b5 b6 b7 b8 b9 b10 env f g h la ln lc m r 100 := by
  intro o L a a0 w ho hall h0 hS hC
  have ho1 := at_op (q := Op.move (Operand.tmp 0)) (by kernel_rfl) ho
  have hx : a.eval (.tmp 0) = .pointer (some ⟨C, 0, none⟩) := (hS.out (by kernel_rfl)).trans h0
  exact k_move _ ho1 hx
theorem g19_101 (C : Nat) (b0 : Bool) (b1 : Bool) (b2 : Bool) (b3 : Bool) (b4 : Bool) (b5 : Bool) (b6 : Bool) (b7 : Bool) (b8 : Bool) (b9 : Bool) (b10 : Bool) (env : ByteArray) (f : Int) (g : Int) (h : Int) (la : Option Addr) (ln lc : Nat) (m r : Option Addr) : Good19 C b0 b1 b2 b3 b4 b5 b6 b7 b8 b9 b10 env f g h la ln lc m r 101 := by
  intro o L a a0 w ho hall h0 hS hC
  have ho1 := at_op (q := Op.nilCheck (Operand.tmp 103)) (by kernel_rfl) ho
  have hx : a.eval (.tmp 103) = .pointer (some ⟨C, 0, none⟩) := hS.arg (p := 100) (d := 103) ho hall (by kernel_rfl) (by kernel_rfl)
  show _ = Result.ok (Next.value (.pointer (some ⟨C, 0, none⟩))) w
  unfold execOp
  simp only [ho1, hx]
  go_simp
theorem g19_102 (C : Nat) (b0 : Bool) (b1 : Bool) (b2 : Bool) (b3 : Bool) (b4 : Bool) (b5 : Bool) (b6 : Bool) (b7 : Bool) (b8 : Bool) (b9 : Bool) (b10 : Bool) (env : ByteArray) (f : Int) (g : Int) (h : Int) (la : Option Addr) (ln lc : Nat) (m r : Option Addr) : Good19 C b0 b1 b2 b3 b4 b5 b6 b7 b8 b9 b10 env f g h la ln lc m r 102 := by
  intro o L a a0 w ho hall h0 hS hC
  have ho1 := at_op (q := Op.fieldAddr 97 (Operand.tmp 104) 71) (by kernel_rfl) ho
  have hx : a.eval (.tmp 104) = .pointer (some ⟨C, 0, none⟩) := hS.arg (p := 101) (d := 104) ho hall (by kernel_rfl) (by kernel_rfl)
  show _ = Result.ok (Next.value (.pointer (some ⟨C, 95, none⟩))) w
  unfold execOp
  simp only [ho1, hx]
  go_simp
theorem g19_103 (C : Nat) (b0 : Bool) (b1 : Bool) (b2 : Bool) (b3 : Bool) (b4 : Bool) (b5 : Bool) (b6 : Bool) (b7 : Bool) (b8 : Bool) (b9 : Bool) (b10 : Bool) (env : ByteArray) (f : Int) (g : Int) (h : Int) (la : Option Addr) (ln lc : Nat) (m r : Option Addr) : Good19 C b0 b1 b2 b3 b4 b5 b6 b7 b8 b9 b10 env f g h la ln lc m r 103 := by
  intro o L a a0 w ho hall h0 hS hC
  have ho1 := at_op (q := Op.load 4 (Operand.tmp 105)) (by kernel_rfl) ho
  have hx : a.eval (.tmp 105) = .pointer (some ⟨C, 95, none⟩) := hS.arg (p := 102) (d := 105) ho hall (by kernel_rfl) (by kernel_rfl)
  have hc : w.cell? ⟨C, 95, none⟩ = some (.bool b9) := (cell_of_row _ _ 95 _ _ _ hC).trans (cw_95 ..)
  show _ = Result.ok (Next.value (.bool b9)) w
  unfold execOp
  simp only [ho1, hx]
  go_simp
theorem g19_104 (C : Nat) (b0 : Bool) (b1 : Bool) (b2 : Bool) (b3 : Bool) (b4 : Bool) (b5 : Bool) (b6 : Bool) (b7 : Bool) (b8 : Bool) (b9 : Bool) (b10 : Bool) (env : ByteArray) (f : Int) (g : Int) (h : Int) (la : Option Addr) (ln lc : Nat) (m r : Option Addr) : Good19 C b0 b1 b2 b3 b4 b5 b6 b7 b8 b9 b10 env f g h la ln lc m r 104 := by
  intro o L a a0 w ho hall h0 hS hC
  have ho1 := at_op (q := Op.move (Operand.tmp 0)) (by kernel_rfl) ho
  have hx : a.eval (.tmp 0) = .pointer (some ⟨C, 0, none⟩) := (hS.out (by kernel_rfl)).trans h0
  exact k_move _ ho1 hx
theorem g19_105 (C : Nat) (b0 : Bool) (b1 : Bool) (b2 : Bool) (b3 : Bool) (b4 : Bool) (b5 : Bool) (b6 : Bool) (b7 : Bool) (b8 : Bool) (b9 : Bool) (b10 : Bool) (env : ByteArray) (f : Int) (g : Int) (h : Int) (la : Option Addr) (ln lc : Nat) (m r : Option Addr) : Good19 C b0 b1 b2 b3 b4 b5 b6 b7 b8 b9 b10 env f g h la ln lc m r 105 := by
  intro o L a a0 w ho hall h0 hS hC
  have ho1 := at_op (q := Op.nilCheck (Operand.tmp 107)) (by kernel_rfl) ho
  have hx : a.eval (.tmp 107) = .pointer (some ⟨C, 0, none⟩) := hS.arg (p := 104) (d := 107) ho hall (by kernel_rfl) (by kernel_rfl)
  show _ = Result.ok (Next.value (.pointer (some ⟨C, 0, none⟩))) w
  unfold execOp
  simp only [ho1, hx]
  go_simp
theorem g19_106 (C : Nat) (b0 : Bool) (b1 : Bool) (b2 : Bool) (b3 : Bool) (b4 : Bool) (b5 : Bool) (b6 : Bool) (b7 : Bool) (b8 : Bool) (b9 : Bool) (b10 : Bool) (env : ByteArray) (f : Int) (g : Int) (h : Int) (la : Option Addr) (ln lc : Nat) (m r : Option Addr) : Good19 C b0 b1 b2 b3 b4 b5 b6 b7 b8 b9 b10 env f g h la ln lc m r 106 := by
  intro o L a a0 w ho hall h0 hS hC
  have ho1 := at_op (q := Op.fieldAddr 97 (Operand.tmp 108) 72) (by kernel_rfl) ho
  have hx : a.eval (.tmp 108) = .pointer (some ⟨C, 0, none⟩) := hS.arg (p := 105) (d := 108) ho hall (by kernel_rfl) (by kernel_rfl)
  show _ = Result.ok (Next.value (.pointer (some ⟨C, 96, none⟩))) w
  unfold execOp
  simp only [ho1, hx]
  go_simp
theorem g19_107 (C : Nat) (b0 : Bool) (b1 : Bool) (b2 : Bool) (b3 : Bool) (b4 : Bool) (b5 : Bool) (b6 : Bool) (b7 : Bool) (b8 : Bool) (b9 : Bool) (b10 : Bool) (env : ByteArray) (f : Int) (g : Int) (h : Int) (la : Option Addr) (ln lc : Nat) (m r : Option Addr) : Good19 C b0 b1 b2 b3 b4 b5 b6 b7 b8 b9 b10 env f g h la ln lc m r 107 := by
  intro o L a a0 w ho hall h0 hS hC
  have ho1 := at_op (q := Op.load 4 (Operand.tmp 109)) (by kernel_rfl) ho
  have hx : a.eval (.tmp 109) = .pointer (some ⟨C, 96, none⟩) := hS.arg (p := 106) (d := 109) ho hall (by kernel_rfl) (by kernel_rfl)
  have hc : w.cell? ⟨C, 96, none⟩ = some (.bool b10) := (cell_of_row _ _ 96 _ _ _ hC).trans (cw_96 ..)
  show _ = Result.ok (Next.value (.bool b10)) w
  unfold execOp
  simp only [ho1, hx]
  go_simp
theorem g19_108 (C : Nat) (b0 : Bool) (b1 : Bool) (b2 : Bool) (b3 : Bool) (b4 : Bool) (b5 : Bool) (b6 : Bool) (b7 : Bool) (b8 : Bool) (b9 : Bool) (b10 : Bool) (env : ByteArray) (f : Int) (g : Int) (h : Int) (la : Option Addr) (ln lc : Nat) (m r : Option Addr) : Good19 C b0 b1 b2 b3 b4 b5 b6 b7 b8 b9 b10 env f g h la ln lc m r 108 := by
  intro o L a a0 w ho hall h0 hS hC
  have ho1 := at_op (q := Op.move (Operand.tmp 0)) (by kernel_rfl) ho
  have hx : a.eval (.tmp 0) = .pointer (some ⟨C, 0, none⟩) := (hS.out (by kernel_rfl)).trans h0
  exact k_move _ ho1 hx
theorem g19_109 (C : Nat) (b0 : Bool) (b1 : Bool) (b2 : Bool) (b3 : Bool) (b4 : Bool) (b5 : Bool) (b6 : Bool) (b7 : Bool) (b8 : Bool) (b9 : Bool) (b10 : Bool) (env : ByteArray) (f : Int) (g : Int) (h : Int) (la : Option Addr) (ln lc : Nat) (m r : Option Addr) : Good19 C b0 b1 b2 b3 b4 b5 b6 b7 b8 b9 b10 env f g h la ln lc m r 109 := by
  intro o L a a0 w ho hall h0 hS hC
  have ho1 := at_op (q := Op.nilCheck (Operand.tmp 111)) (by kernel_rfl) ho
  have hx : a.eval (.tmp 111) = .pointer (some ⟨C, 0, none⟩) := hS.arg (p := 108) (d := 111) ho hall (by kernel_rfl) (by kernel_rfl)
  show _ = Result.ok (Next.value (.pointer (some ⟨C, 0, none⟩))) w
  unfold execOp
  simp only [ho1, hx]
  go_simp
theorem g19_110 (C : Nat) (b0 : Bool) (b1 : Bool) (b2 : Bool) (b3 : Bool) (b4 : Bool) (b5 : Bool) (b6 : Bool) (b7 : Bool) (b8 : Bool) (b9 : Bool) (b10 : Bool) (env : ByteArray) (f : Int) (g : Int) (h : Int) (la : Option Addr) (ln lc : Nat) (m r : Option Addr) : Good19 C b0 b1 b2 b3 b4 b5 b6 b7 b8 b9 b10 env f g h la ln lc m r 110 := by
  intro o L a a0 w ho hall h0 hS hC
  have ho1 := at_op (q := Op.fieldAddr 97 (Operand.tmp 112) 59) (by kernel_rfl) ho
  have hx : a.eval (.tmp 112) = .pointer (some ⟨C, 0, none⟩) := hS.arg (p := 109) (d := 112) ho hall (by kernel_rfl) (by kernel_rfl)
  show _ = Result.ok (Next.value (.pointer (some ⟨C, 83, none⟩))) w
  unfold execOp
  simp only [ho1, hx]
  go_simp
theorem g19_111 (C : Nat) (b0 : Bool) (b1 : Bool) (b2 : Bool) (b3 : Bool) (b4 : Bool) (b5 : Bool) (b6 : Bool) (b7 : Bool) (b8 : Bool) (b9 : Bool) (b10 : Bool) (env : ByteArray) (f : Int) (g : Int) (h : Int) (la : Option Addr) (ln lc : Nat) (m r : Option Addr) : Good19 C b0 b1 b2 b3 b4 b5 b6 b7 b8 b9 b10 env f g h la ln lc m r 111 := by
  intro o L a a0 w ho hall h0 hS hC
  have ho1 := at_op (q := Op.load 56 (Operand.tmp 113)) (by kernel_rfl) ho
  have hx : a.eval (.tmp 113) = .pointer (some ⟨C, 83, none⟩) := hS.arg (p := 110) (d := 113) ho hall (by kernel_rfl) (by kernel_rfl)
  have hc : w.cell? ⟨C, 83, none⟩ = some (.int .u8 0) := (cell_of_row _ _ 83 _ _ _ hC).trans (cw_83 ..)
  show _ = Result.ok (Next.value (.int .u8 0)) w
  unfold execOp
  simp only [ho1, hx]
  go_simp
theorem g19_112 (C : Nat) (b0 : Bool) (b1 : Bool) (b2 : Bool) (b3 : Bool) (b4 : Bool) (b5 : Bool) (b6 : Bool) (b7 : Bool) (b8 : Bool) (b9 : Bool) (b10 : Bool) (env : ByteArray) (f : Int) (g : Int) (h : Int) (la : Option Addr) (ln lc : Nat) (m r : Option Addr) : Good19 C b0 b1 b2 b3 b4 b5 b6 b7 b8 b9 b10 env f g h la ln lc m r 112 := by
  intro o L a a0 w ho hall h0 hS hC
  have ho1 := at_op (q := Op.move (Operand.tmp 0)) (by kernel_rfl) ho
  have hx : a.eval (.tmp 0) = .pointer (some ⟨C, 0, none⟩) := (hS.out (by kernel_rfl)).trans h0
  exact k_move _ ho1 hx
theorem g19_113 (C : Nat) (b0 : Bool) (b1 : Bool) (b2 : Bool) (b3 : Bool) (b4 : Bool) (b5 : Bool) (b6 : Bool) (b7 : Bool) (b8 : Bool) (b9 : Bool) (b10 : Bool) (env : ByteArray) (f : Int) (g : Int) (h : Int) (la : Option Addr) (ln lc : Nat) (m r : Option Addr) : Good19 C b0 b1 b2 b3 b4 b5 b6 b7 b8 b9 b10 env f g h la ln lc m r 113 := by
  intro o L a a0 w ho hall h0 hS hC
  have ho1 := at_op (q := Op.nilCheck (Operand.tmp 115)) (by kernel_rfl) ho
  have hx : a.eval (.tmp 115) = .pointer (some ⟨C, 0, none⟩) := hS.arg (p := 112) (d := 115) ho hall (by kernel_rfl) (by kernel_rfl)
  show _ = Result.ok (Next.value (.pointer (some ⟨C, 0, none⟩))) w
  unfold execOp
  simp only [ho1, hx]
  go_simp
theorem g19_114 (C : Nat) (b0 : Bool) (b1 : Bool) (b2 : Bool) (b3 : Bool) (b4 : Bool) (b5 : Bool) (b6 : Bool) (b7 : Bool) (b8 : Bool) (b9 : Bool) (b10 : Bool) (env : ByteArray) (f : Int) (g : Int) (h : Int) (la : Option Addr) (ln lc : Nat) (m r : Option Addr) : Good19 C b0 b1 b2 b3 b4 b5 b6 b7 b8 b9 b10 env f g h la ln lc m r 114 := by
  intro o L a a0 w ho hall h0 hS hC
  have ho1 := at_op (q := Op.fieldAddr 97 (Operand.tmp 116) 60) (by kernel_rfl) ho
  have hx : a.eval (.tmp 116) = .pointer (some ⟨C, 0, none⟩) := hS.arg (p := 113) (d := 116) ho hall (by kernel_rfl) (by kernel_rfl)
  show _ = Result.ok (Next.value (.pointer (some ⟨C, 84, none⟩))) w
  unfold execOp
  simp only [ho1, hx]
  go_simp
theorem g19_115 (C : Nat) (b0 : Bool) (b1 : Bool) (b2 : Bool) (b3 : Bool) (b4 : Bool) (b5 : Bool) (b6 : Bool) (b7 : Bool) (b8 : Bool) (b9 : Bool) (b10 : Bool) (env : ByteArray) (f : Int) (g : Int) (h : Int) (la : Option Addr) (ln lc : Nat) (m r : Option Addr) : Good19 C b0 b1 b2 b3 b4 b5 b6 b7 b8 b9 b10 env f g h la ln lc m r 115 := by
  intro o L a a0 w ho hall h0 hS hC
  have ho1 := at_op (q := Op.load 56 (Operand.tmp 117)) (by kernel_rfl) ho
  have hx : a.eval (.tmp 117) = .pointer (some ⟨C, 84, none⟩) := hS.arg (p := 114) (d := 117) ho hall (by kernel_rfl) (by kernel_rfl)
  have hc : w.cell? ⟨C, 84, none⟩ = some (.int .u8 0) := (cell_of_row _ _ 84 _ _ _ hC).trans (cw_84 ..)
  show _ = Result.ok (Next.value (.int .u8 0)) w
  unfold execOp
  simp only [ho1, hx]
  go_simp
theorem g19_116 (C : Nat) (b0 : Bool) (b1 : Bool) (b2 : Bool) (b3 : Bool) (b4 : Bool) (b5 : Bool) (b6 : Bool) (b7 : Bool) (b8 : Bool) (b9 : Bool) (b10 : Bool) (env : ByteArray) (f : Int) (g : Int) (h : Int) (la : Option Addr) (ln lc : Nat) (m r : Option Addr) : Good19 C b0 b1 b2 b3 b4 b5 b6 b7 b8 b9 b10 env f g h la ln lc m r 116 := by
  intro o L a a0 w ho hall h0 hS hC
  have ho1 := at_op (q := Op.build 58 #[(2, Operand.tmp 34), (3, Operand.tmp 38), (4, Operand.tmp 42), (0, Operand.tmp 46), (5, Operand.tmp 50), (6, Operand.tmp 54), (7, Operand.tmp 58), (8, Operand.tmp 62), (1, Operand.tmp 66), (11, Operand.tmp 70), (12, Operand.tmp 74), (13, Operand.tmp 78), (14, Operand.tmp 82), (15, Operand.tmp 86), (16, Operand.tmp 90), (17, Operand.tmp 94), (18, Operand.tmp 98), (19, Operand.tmp 102), (20, Operand.tmp 106), (21, Operand.tmp 110), (9, Operand.tmp 114), (10, Operand.tmp 118)]) (by kernel_rfl) ho
  have hx34 : a.eval (.tmp 34) = .int .u64 f := hS.arg (p := 31) (d := 34) ho hall (by kernel_rfl) (by kernel_rfl)
  have hx38 : a.eval (.tmp 38) = .int .u64 g := hS.arg (p := 35) (d := 38) ho hall (by kernel_rfl) (by kernel_rfl)
  have hx42 : a.eval (.tmp 42) = .int .u64 h := hS.arg (p := 39) (d := 42) ho hall (by kernel_rfl) (by kernel_rfl)
  have hx46 : a.eval (.tmp 46) = .string env := hS.arg (p := 43) (d := 46) ho hall (by kernel_rfl) (by kernel_rfl)
  have hx50 : a.eval (.tmp 50) = .agg zts := hS.arg (p := 47) (d := 50) ho hall (by kernel_rfl) (by kernel_rfl)
  have hx54 : a.eval (.tmp 54) = .int .u8 0 := hS.arg (p := 51) (d := 54) ho hall (by kernel_rfl) (by kernel_rfl)
  have hx58 : a.eval (.tmp 58) = .int .u8 0 := hS.arg (p := 55) (d := 58) ho hall (by kernel_rfl) (by kernel_rfl)
  have hx62 : a.eval (.tmp 62) = .int .u8 0 := hS.arg (p := 59) (d := 62) ho hall (by kernel_rfl) (by kernel_rfl)
  have hx66 : a.eval (.tmp 66) = .agg zmt := hS.arg (p := 63) (d := 66) ho hall (by kernel_rfl) (by kernel_rfl)
  have hx70 : a.eval (.tmp 70) = .bool b0 := hS.arg (p := 67) (d := 70) ho hall (by kernel_rfl) (by kernel_rfl)
  have hx74 : a.eval (.tmp 74) = .bool b1 := hS.arg (p := 71) (d := 74) ho hall (by kernel_rfl) (by kernel_rfl)
  have hx78 : a.eval (.tmp 78) = .bool b2 := hS.arg (p := 75) (d := 78) ho hall (by kernel_rfl) (by kernel_rfl)
  have hx82 : a.eval (.tmp 82) = .bool b3 := hS.arg (p := 79) (d := 82) ho hall (by kernel_rfl) (by kernel_rfl)
  have hx86 : a.eval (.tmp 86) = .bool b4 := hS.arg (p := 83) (d := 86) ho hall (by kernel_rfl) (by kernel_rfl)
  have hx90 : a.eval (.tmp 90) = .bool b5 := hS.arg (p := 87) (d := 90) ho hall (by kernel_rfl) (by kernel_rfl)
  have hx94 : a.eval (.tmp 94) = .bool b6 := hS.arg (p := 91) (d := 94) ho hall (by kernel_rfl) (by kernel_rfl)
  have hx98 : a.eval (.tmp 98) = .bool b7 := hS.arg (p := 95) (d := 98) ho hall (by kernel_rfl) (by kernel_rfl)
  have hx102 : a.eval (.tmp 102) = .bool b8 := hS.arg (p := 99) (d := 102) ho hall (by kernel_rfl) (by kernel_rfl)
  have hx106 : a.eval (.tmp 106) = .bool b9 := hS.arg (p := 103) (d := 106) ho hall (by kernel_rfl) (by kernel_rfl)
  have hx110 : a.eval (.tmp 110) = .bool b10 := hS.arg (p := 107) (d := 110) ho hall (by kernel_rfl) (by kernel_rfl)
  have hx114 : a.eval (.tmp 114) = .int .u8 0 := hS.arg (p := 111) (d := 114) ho hall (by kernel_rfl) (by kernel_rfl)
  have hx118 : a.eval (.tmp 118) = .int .u8 0 := hS.arg (p := 115) (d := 118) ho hall (by kernel_rfl) (by kernel_rfl)
  refine k_build 58 _ ho1 _ ?_
  simp only [List.map_toArray, List.map_cons, List.map_nil, hx34, hx38, hx42, hx46, hx50, hx54, hx58, hx62, hx66, hx70, hx74, hx78, hx82, hx86, hx90, hx94, hx98, hx102, hx106, hx110, hx114, hx118]
  exact sv_full b0 b1 b2 b3 b4 b5 b6 b7 b8 b9 b10 env f g h la ln lc
theorem g19_117 (C : Nat) (b0 : Bool) (b1 : Bool) (b2 : Bool) (b3 : Bool) (b4 : Bool) (b5 : Bool) (b6 : Bool) (b7 : Bool) (b8 : Bool) (b9 : Bool) (b10 : Bool) (env : ByteArray) (f : Int) (g : Int) (h : Int) (la : Option Addr) (ln lc : Nat) (m r : Option Addr) : Good19 C b0 b1 b2 b3 b4 b5 b6 b7 b8 b9 b10 env f g h la ln lc m r 117 := by
  intro o L a a0 w ho hall h0 hS hC
  have ho1 := at_op (q := Op.build 60 #[(0, Operand.tmp 6), (1, Operand.tmp 10), (6, Operand.tmp 14), (2, Operand.tmp 18), (3, Operand.tmp 22), (4, Operand.tmp 26), (5, Operand.tmp 30), (7, Operand.tmp 119)]) (by kernel_rfl) ho
  have hx6 : a.eval (.tmp 6) = .slice none 0 0 := hS.arg (p := 3) (d := 6) ho hall (by kernel_rfl) (by kernel_rfl)
  have hx10 : a.eval (.tmp 10) = .agg zjx := hS.arg (p := 7) (d := 10) ho hall (by kernel_rfl) (by kernel_rfl)
  have hx14 : a.eval (.tmp 14) = .pointer none := hS.arg (p := 11) (d := 14) ho hall (by kernel_rfl) (by kernel_rfl)
  have hx18 : a.eval (.tmp 18) = .pointer none := hS.arg (p := 15) (d := 18) ho hall (by kernel_rfl) (by kernel_rfl)
  have hx22 : a.eval (.tmp 22) = .pointer m := hS.arg (p := 19) (d := 22) ho hall (by kernel_rfl) (by kernel_rfl)
  have hx26 : a.eval (.tmp 26) = .pointer r := hS.arg (p := 23) (d := 26) ho hall (by kernel_rfl) (by kernel_rfl)
  have hx30 : a.eval (.tmp 30) = .slice la ln lc := hS.arg (p := 27) (d := 30) ho hall (by kernel_rfl) (by kernel_rfl)
  have hx119 : a.eval (.tmp 119) = .agg (sv env f g h b0 b1 b2 b3 b4 b5 b6 b7 b8 b9 b10 false) := hS.arg (p := 116) (d := 119) ho hall (by kernel_rfl) (by kernel_rfl)
  refine k_build 60 _ ho1 _ ?_
  simp only [List.map_toArray, List.map_cons, List.map_nil, hx6, hx10, hx14, hx18, hx22, hx26, hx30, hx119]
  exact ov_full b0 b1 b2 b3 b4 b5 b6 b7 b8 b9 b10 env f g h la ln lc m r
theorem good19 (C : Nat) (b0 : Bool) (b1 : Bool) (b2 : Bool) (b3 : Bool) (b4 : Bool) (b5 : Bool) (b6 : Bool) (b7 : Bool) (b8 : Bool) (b9 : Bool) (b10 : Bool) (env : ByteArray) (f : Int) (g : Int) (h : Int) (la : Option Addr) (ln lc : Nat) (m r : Option Addr) : ∀ i, i < 118 → Good19 C b0 b1 b2 b3 b4 b5 b6 b7 b8 b9 b10 env f g h la ln lc m r i
  | 0, _ => g19_0 C b0 b1 b2 b3 b4 b5 b6 b7 b8 b9 b10 env f g h la ln lc m r
  | 1, _ => g19_1 C b0 b1 b2 b3 b4 b5 b6 b7 b8 b9 b10 env f g h la ln lc m r
  | 2, _ => g19_2 C b0 b1 b2 b3 b4 b5 b6 b7 b8 b9 b10 env f g h la ln lc m r
  | 3, _ => g19_3 C b0 b1 b2 b3 b4 b5 b6 b7 b8 b9 b10 env f g h la ln lc m r
  | 4, _ => g19_4 C b0 b1 b2 b3 b4 b5 b6 b7 b8 b9 b10 env f g h la ln lc m r
  | 5, _ => g19_5 C b0 b1 b2 b3 b4 b5 b6 b7 b8 b9 b10 env f g h la ln lc m r
  | 6, _ => g19_6 C b0 b1 b2 b3 b4 b5 b6 b7 b8 b9 b10 env f g h la ln lc m r
  | 7, _ => g19_7 C b0 b1 b2 b3 b4 b5 b6 b7 b8 b9 b10 env f g h la ln lc m r
  | 8, _ => g19_8 C b0 b1 b2 b3 b4 b5 b6 b7 b8 b9 b10 env f g h la ln lc m r
  | 9, _ => g19_9 C b0 b1 b2 b3 b4 b5 b6 b7 b8 b9 b10 env f g h la ln lc m r
  | 10, _ => g19_10 C b0 b1 b2 b3 b4 b5 b6 b7 b8 b9 b10 env f g h la ln lc m r
  | 11, _ => g19_11 C b0 b1 b2 b3 b4 b5 b6 b7 b8 b9 b10 env f g h la ln lc m r
  | 12, _ => g19_12 C b0 b1 b2 b3 b4 b5 b6 b7 b8 b9 b10 env f g h la ln lc m r
  | 13, _ => g19_13 C b0 b1 b2 b3 b4 b5 b6 b7 b8 b9 b10 env f g h la ln lc m r
  | 14, _ => g19_14 C b0 b1 b2 b3 b4 b5 b6 b7 b8 b9 b10 env f g h la ln lc m r
  | 15, _ => g19_15 C b0 b1 b2 b3 b4 b5 b6 b7 b8 b9 b10 env f g h la ln lc m r
  | 16, _ => g19_16 C b0 b1 b2 b3 b4 b5 b6 b7 b8 b9 b10 env f g h la ln lc m r
  | 17, _ => g19_17 C b0 b1 b2 b3 b4 b5 b6 b7 b8 b9 b10 env f g h la ln lc m r
  | 18, _ => g19_18 C b0 b1 b2 b3 b4 b5 b6 b7 b8 b9 b10 env f g h la ln lc m r
  | 19, _ => g19_19 C b0 b1 b2 b3 b4 b5 b6 b7 b8 b9 b10 env f g h la ln lc m r
  | 20, _ => g19_20 C b0 b1 b2 b3 b4 b5 b6 b7 b8 b9 b10 env f g h la ln lc m r
  | 21, _ => g19_21 C b0 b1 b2 b3 b4 b5 b6 b7 b8 b9 b10 env f g h la ln lc m r
  | 22, _ => g19_22 C b0 b1 b2 b3 b4 b5 b6 b7 b8 b9 b10 env f g h la ln lc m r
  | 23, _ => g19_23 C b0 b1 b2 b3 b4 b5 b6 b7 b8 b9 b10 env f g h la ln lc m r
  | 24, _ => g19_24 C b0 b1 b2 b3 b4 b5 b6 b7 b8 b9 b10 env f g h la ln lc m r
  | 25, _ => g19_25 C b0 b1 b2 b3 b4 b5 b6 b7 b8 b9 b10 env f g h la ln lc m r
  | 26, _ => g19_26 C b0 b1 b2 b3 b4 b5 b6 b7 b8 b9 b10 env f g h la ln lc m r
  | 27, _ => g19_27 C b0 b1 b2 b3 b4 b5 b6 b7 b8 b9 b10 env f g h la ln lc m r
  | 28, _ => g19_28 C b0 b1 b2 b3 b4 b5 b6 b7 b8 b9 b10 env f g h la ln lc m r
  | 29, _ => g19_29 C b0 b1 b2 b3 b4 b5 b6 b7 b8 b9 b10 env f g h la ln lc m r
  | 30, _ => g19_30 C b0 b1 b2 b3 b4 b5 b6 b7 b8 b9 b10 env f g h la ln lc m r
  | 31, _ => g19_31 C b0 b1 b2 b3 b4 b5 b6 b7 b8 b9 b10 env f g h la ln lc m r
  | 32, _ => g19_32 C b0 b1 b2 b3 b4 b5 b6 b7 b8 b9 b10 env f g h la ln lc m r
  | 33, _ => g19_33 C b0 b1 b2 b3 b4 b5 b6 b7 b8 b9 b10 env f g h la ln lc m r
  | 34, _ => g19_34 C b0 b1 b2 b3 b4 b5 b6 b7 b8 b9 b10 env f g h la ln lc m r
  | 35, _ => g19_35 C b0 b1 b2 b3 b4 b5 b6 b7 b8 b9 b10 env f g h la ln lc m r
  | 36, _ => g19_36 C b0 b1 b2 b3 b4 b5 b6 b7 b8 b9 b10 env f g h la ln lc m r
  | 37, _ => g19_37 C b0 b1 b2 b3 b4 b5 b6 b7 b8 b9 b10 env f g h la ln lc m r
  | 38, _ => g19_38 C b0 b1 b2 b3 b4 b5 b6 b7 b8 b9 b10 env f g h la ln lc m r
  | 39, _ => g19_39 C b0 b1 b2 b3 b4 b5 b6 b7 b8 b9 b10 env f g h la ln lc m r
  | 40, _ => g19_40 C b0 b1 b2 b3 b4 b5 b6 b7 b8 b9 b10 env f g h la ln lc m r
  | 41, _ => g19_41 C b0 b1 b2 b3 b4 b5 b6 b7 b8 b9 b10 env f g h la ln lc m r
  | 42, _ => g19_42 C b0 b1 b2 b3 b4 b5 b6 b7 b8 b9 b10 env f g h la ln lc m r
  | 43, _ => g19_43 C b0 b1 b2 b3 b4 b5 b6 b7 b8 b9 b10 env f g h la ln lc m r
  | 44, _ => g19_44 C b0 b1 b2 b3 b4 b5 b6 b7 b8 b9 b10 env f g h la ln lc m r
  | 45, _ => g19_45 C b0 b1 b2 b3 b4 b5 b6 b7 b8 b9 b10 env f g h la ln lc m r
  | 46, _ => g19_46 C b0 b1 b2 b3 b4 b5 b6 b7 b8 b9 b10 env f g h la ln lc m r
  | 47, _ => g19_47 C b0 b1 b2 b3 b4 b5 b6 b7 b8 b9 b10 env f g h la ln lc m r
  | 48, _ => g19_48 C b0 b1 b2 b3 b4 b5 b6 b7 b8 b9 b10 env f g h la ln lc m r
  | 49, _ => g19_49 C b0 b1 b2 b3 b4 b5 b6 b7 b8 b9 b10 env f g h la ln lc m r
  | 50, _ => g19_50 C b0 b1 b2 b3 b4 b5 b6 b7 b8 b9 b10 env f g h la ln lc m r
  | 51, _ => g19_51 C b0 b1 b2 b3 b4 b5 b6 b7 b8 b9 b10 env f g h la ln lc m r
  | 52, _ => g19_52 C b0 b1 b2 b3 b4 b5 b6 b7 b8 b9 b10 env f g h la ln lc m r
  | 53, _ => g19_53 C b0 b1 b2 b3 b4 b5 b6 b7 b8 b9 b10 env f g h la ln lc m r
  | 54, _ => g19_54 C b0 b1 b2 b3 b4 b5 b6 b7 b8 b9 b10 env f g h la ln lc m r
  | 55, _ => g19_55 C b0 b1 b2 b3 b4 b5 b6 b7 b8 b9 b10 env f g h la ln lc m r
  | 56, _ => g19_56 C b0 b1 b2 b3 b4 b5 b6 b7 b8 b9 b10 env f g h la ln lc m r
  | 57, _ => g19_57 C b0 b1 b2 b3 b4 b5 b6 b7 b8 b9 b10 env f g h la ln lc m r
  | 58, _ => g19_58 C b0 b1 b2 b3 b4 b5 b6 b7 b8 b9 b10 env f g h la ln lc m r
  | 59, _ => g19_59 C b0 b1 b2 b3 b4 b5 b6 b7 b8 b9 b10 env f g h la ln lc m r
  | 60, _ => g19_60 C b0 b1 b2 b3 b4 b5 b6 b7 b8 b9 b10 env f g h la ln lc m r
  | 61, _ => g19_61 C b0 b1 b2 b3 b4 b5 b6 b7 b8 b9 b10 env f g h la ln lc m r
  | 62, _ => g19_62 C b0 b1 b2 b3 b4 b5 b6 b7 b8 b9 b10 env f g h la ln lc m r
  | 63, _ => g19_63 C b0 b1 b2 b3 b4 b5 b6 b7 b8 b9 b10 env f g h la ln lc m r
  | 64, _ => g19_64 C b0 b1 b2 b3 b4 b5 b6 b7 b8 b9 b10 env f g h la ln lc m r
  | 65, _ => g19_65 C b0 b1 b2 b3 b4 b5 b6 b7 b8 b9 b10 env f g h la ln lc m r
  | 66, _ => g19_66 C b0 b1 b2 b3 b4 b5 b6 b7 b8 b9 b10 env f g h la ln lc m r
  | 67, _ => g19_67 C b0 b1 b2 b3 b4 b5 b6 b7 b8 b9 b10 env f g h la ln lc m r
  | 68, _ => g19_68 C b0 b1 b2 b3 b4 b5 b6 b7 b8 b9 b10 env f g h la ln lc m r
  | 69, _ => g19_69 C b0 b1 b2 b3 b4 b5 b6 b7 b8 b9 b10 env f g h la ln lc m r
  | 70, _ => g19_70 C b0 b1 b2 b3 b4 b5 b6 b7 b8 b9 b10 env f g h la ln lc m r
  | 71, _ => g19_71 C b0 b1 b2 b3 b4 b5 b6 b7 b8 b9 b10 env f g h la ln lc m r
  | 72, _ => g19_72 C b0 b1 b2 b3 b4 b5 b6 b7 b8 b9 b10 env f g h la ln lc m r
  | 73, _ => g19_73 C b0 b1 b2 b3 b4 b5 b6 b7 b8 b9 b10 env f g h la ln lc m r
  | 74, _ => g19_74 C b0 b1 b2 b3 b4 b5 b6 b7 b8 b9 b10 env f g h la ln lc m r
  | 75, _ => g19_75 C b0 b1 b2 b3 b4 b5 b6 b7 b8 b9 b10 env f g h la ln lc m r
  | 76, _ => g19_76 C b0 b1 b2 b3 b4 b5 b6 b7 b8 b9 b10 env f g h la ln lc m r
  | 77, _ => g19_77 C b0 b1 b2 b3 b4 b5 b6 b7 b8 b9 b10 env f g h la ln lc m r
  | 78, _ => g19_78 C b0 b1 b2 b3 b4 b5 b6 b7 b8 b9 b10 env f g h la ln lc m r
  | 79, _ => g19_79 C b0 b1 b2 b3 b4 b5 b6 b7 b8 b9 b10 env f g h la ln lc m r
  | 80, _ => g19_80 C b0 b1 b2 b3 b4 b5 b6 b7 b8 b9 b10 env f g h la ln lc m r
  | 81, _ => g19_81 C b0 b1 b2 b3 b4 b5 b6 b7 b8 b9 b10 env f g h la ln lc m r
  | 82, _ => g19_82 C b0 b1 b2 b3 b4 b5 b6 b7 b8 b9 b10 env f g h la ln lc m r
  | 83, _ => g19_83 C b0 b1 b2 b3 b4 b5 b6 b7 b8 b9 b10 env f g h la ln lc m r
  | 84, _ => g19_84 C b0 b1 b2 b3 b4 b5 b6 b7 b8 b9 b10 env f g h la ln lc m r
  | 85, _ => g19_85 C b0 b1 b2 b3 b4 b5 b6 b7 b8 b9 b10 env f g h la ln lc m r
  | 86, _ => g19_86 C b0 b1 b2 b3 b4 b5 b6 b7 b8 b9 b10 env f g h la ln lc m r
  | 87, _ => g19_87 C b0 b1 b2 b3 b4 b5 b6 b7 b8 b9 b10 env f g h la ln lc m r
  | 88, _ => g19_88 C b0 b1 b2 b3 b4 b5 b6 b7 b8 b9 b10 env f g h la ln lc m r
  | 89, _ => g19_89 C b0 b1 b2 b3 b4 b5 b6 b7 b8 b9 b10 env f g h la ln lc m r
  | 90, _ => g19_90 C b0 b1 b2 b3 b4 b5 b6 b7 b8 b9 b10 env f g h la ln lc m r
  | 91, _ => g19_91 C b0 b1 b2 b3 b4 b5 b6 b7 b8 b9 b10 env f g h la ln lc m r
  | 92, _ => g19_92 C b0 b1 b2 b3 b4 b5 b6 b7 b8 b9 b10 env f g h la ln lc m r
  | 93, _ => g19_93 C b0 b1 b2 b3 b4 b5 b6 b7 b8 b9 b10 env f g h la ln lc m r
  | 94, _ => g19_94 C b0 b1 b2 b3 b4 b5 b6 b7 b8 b9 b10 env f g h la ln lc m r
  | 95, _ => g19_95 C b0 b1 b2 b3 b4 b5 b6 b7 b8 b9 b10 env f g h la ln lc m r
  | 96, _ => g19_96 C b0 b1 b2 b3 b4 b5 b6 b7 b8 b9 b10 env f g h la ln lc m r
  | 97, _ => g19_97 C b0 b1 b2 b3 b4 b5 b6 b7 b8 b9 b10 env f g h la ln lc m r
  | 98, _ => g19_98 C b0 b1 b2 b3 b4 b5 b6 b7 b8 b9 b10 env f g h la ln lc m r
  | 99, _ => g19_99 C b0 b1 b2 b3 b4 b5 b6 b7 b8 b9 b10 env f g h la ln lc m r
  | 100, _ => g19_100 C b0 b1 b2 b3 b4 b5 b6 b7 b8 b9 b10 env f g h la ln lc m r
  | 101, _ => g19_101 C b0 b1 b2 b3 b4 b5 b6 b7 b8 b9 b10 env f g h la ln lc m r
  | 102, _ => g19_102 C b0 b1 b2 b3 b4 b5 b6 b7 b8 b9 b10 env f g h la ln lc m r
  | 103, _ => g19_103 C b0 b1 b2 b3 b4 b5 b6 b7 b8 b9 b10 env f g h la ln lc m r
  | 104, _ => g19_104 C b0 b1 b2 b3 b4 b5 b6 b7 b8 b9 b10 env f g h la ln lc m r
  | 105, _ => g19_105 C b0 b1 b2 b3 b4 b5 b6 b7 b8 b9 b10 env f g h la ln lc m r
  | 106, _ => g19_106 C b0 b1 b2 b3 b4 b5 b6 b7 b8 b9 b10 env f g h la ln lc m r
  | 107, _ => g19_107 C b0 b1 b2 b3 b4 b5 b6 b7 b8 b9 b10 env f g h la ln lc m r
  | 108, _ => g19_108 C b0 b1 b2 b3 b4 b5 b6 b7 b8 b9 b10 env f g h la ln lc m r
  | 109, _ => g19_109 C b0 b1 b2 b3 b4 b5 b6 b7 b8 b9 b10 env f g h la ln lc m r
  | 110, _ => g19_110 C b0 b1 b2 b3 b4 b5 b6 b7 b8 b9 b10 env f g h la ln lc m r
  | 111, _ => g19_111 C b0 b1 b2 b3 b4 b5 b6 b7 b8 b9 b10 env f g h la ln lc m r
  | 112, _ => g19_112 C b0 b1 b2 b3 b4 b5 b6 b7 b8 b9 b10 env f g h la ln lc m r
  | 113, _ => g19_113 C b0 b1 b2 b3 b4 b5 b6 b7 b8 b9 b10 env f g h la ln lc m r
  | 114, _ => g19_114 C b0 b1 b2 b3 b4 b5 b6 b7 b8 b9 b10 env f g h la ln lc m r
  | 115, _ => g19_115 C b0 b1 b2 b3 b4 b5 b6 b7 b8 b9 b10 env f g h la ln lc m r
  | 116, _ => g19_116 C b0 b1 b2 b3 b4 b5 b6 b7 b8 b9 b10 env f g h la ln lc m r
  | 117, _ => g19_117 C b0 b1 b2 b3 b4 b5 b6 b7 b8 b9 b10 env f g h la ln lc m r
  | i + 118, h => absurd h (by omega)
def W19 (R : Nat) (cs : Array Value) (w : World) (L : Array Bool) (w' : World) : Prop := (L.getD 118 false = false → w' = w.drew) ∧ (L.getD 118 false = true → w' = w.drew.setRow R cs)
theorem region19 {id : Nat} {a0 : Act} {w : World} {Q : Exit → Act → World → Prop} (C R : Nat) (b0 : Bool) (b1 : Bool) (b2 : Bool) (b3 : Bool) (b4 : Bool) (b5 : Bool) (b6 : Bool) (b7 : Bool) (b8 : Bool) (b9 : Bool) (b10 : Bool) (env : ByteArray) (f : Int) (g : Int) (h : Int) (la : Option Addr) (ln lc : Nat) (m r : Option Addr) (hs : a0.tmps.size = 121) (h0 : a0.eval (.tmp 0) = .pointer (some ⟨C, 0, none⟩)) (h2 : a0.eval (.tmp 2) = .pointer (some ⟨R, 0, none⟩))
    (hC : w.heap[C]? = some (.cells (cw b0 b1 b2 b3 b4 b5 b6 b7 b8 b9 b10 env f g h la ln lc m r) 97 (0, 0))) (hR : w.heap[R]? = some (.cells oz 60 (0, 0))) (hne : C ≠ R)
    (hQ : ∀ a : Act, a.defers = a0.defers → a.eval (.tmp 2) = .pointer (some ⟨R, 0, none⟩) → Q .normal a (w.drew.setRow R (ov m r la ln lc env f g h b0 b1 b2 b3 b4 b5 b6 b7 b8 b9 b10 false))) : (Code.region id ops19 true).wp Try.prog Q a0 w := by
  have hCC : ∀ L w', W19 R (ov m r la ln lc env f g h b0 b1 b2 b3 b4 b5 b6 b7 b8 b9 b10 false) w L w' → w'.heap[C]? = some (.cells (cw b0 b1 b2 b3 b4 b5 b6 b7 b8 b9 b10 env f g h la ln lc m r) 97 (0, 0)) := by
    rintro L w' ⟨h1, h2⟩
    cases e : L.getD 118 false
    · rw [h1 e]; exact hC
    · rw [h2 e, setRow_other _ _ _ _ hne]; exact hC
  refine wp_region_sl (Θ := Unit) (by kernel_rfl) (fun _ => V19 C b0 b1 b2 b3 b4 b5 b6 b7 b8 b9 b10 env f g h la ln lc m r) (fun _ => W19 R (ov m r la ln lc env f g h b0 b1 b2 b3 b4 b5 b6 b7 b8 b9 b10 false) w) (by kernel_rfl) (by rw [hs]; kernel_rfl) () ?_ ?_ ?_
  · refine ⟨fun _ => rfl, fun h => ?_⟩
    rw [Array.getD_eq_getD_getElem?, Array.getElem?_replicate] at h
    split at h <;> simp at h
  · rintro i o t L a w' ho hL hu hall hS hW
    have hi : i < 119 := by rw [← size19]; exact (Array.getElem?_eq_some_iff.1 ho).1
    by_cases hl : i = 118
    · subst hl
      have ho1 := at_op (q := Op.store 60 (Operand.tmp 2) (Operand.tmp 120)) (by kernel_rfl) ho
      have hd := at_dst (d := none) (by kernel_rfl) ho
      have hx : a.eval (.tmp 2) = .pointer (some ⟨R, 0, none⟩) := (hS.out (by kernel_rfl)).trans h2
      have hy : a.eval (.tmp 120) = .agg (ov m r la ln lc env f g h b0 b1 b2 b3 b4 b5 b6 b7 b8 b9 b10 false) := hS.arg (p := 117) (d := 120) ho hall (by kernel_rfl) (by kernel_rfl)
      obtain rfl := hW.1 (getD_false_of_unlisted hu)
      refine wp_store_row 60 _ _ ho1 R _ hx hy 60 oz hR (by rw [ov_size]; kernel_rfl) (by rw [ov_size]; kernel_rfl) (by kernel_rfl) ?_
      refine ⟨(), by rw [hd]; rfl, fun _ _ => rfl, fun h => ?_, fun _ => rfl⟩
      rw [getD_set_same (by rw [hL, size19]; omega)] at h
      cases h
    · refine pure_op (t := t) (V := fun _ => V19 C b0 b1 b2 b3 b4 b5 b6 b7 b8 b9 b10 env f g h la ln lc m r) (good19 C b0 b1 b2 b3 b4 b5 b6 b7 b8 b9 b10 env f g h la ln lc m r i (by omega) o L a a0 _ ho hall h0 hS (hCC L w' hW)) rfl ?_
      unfold W19
      rw [getD_set_other hl]
      exact hW
  · rintro t L a w' hall hS hW
    rw [hW.2 (hall 118 (by rw [size19]; omega))]
    exact hQ a hS.1 ((hS.out (by kernel_rfl)).trans h2)
end Go.Proofs.Ytbebfpmnekbldaa.op
