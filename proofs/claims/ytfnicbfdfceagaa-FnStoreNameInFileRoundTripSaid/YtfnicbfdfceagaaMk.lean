/-
  Storing a name by its place in the file: the small contracts.
-/
import Derived.Test.YtfnicbfdfceagaaRows
import Derived.WalkKit
import Derived.ProofKit
import Derived.OpenShut
import Derived.ShutString
import Derived.Lib.Hide
import Derived.WalkLawsBesides
import Derived.Deep.OwnRows
import Derived.Laws.Rows
import Derived.OneCell
import Derived.Below
import Derived.WalkSpells
import Derived.Laws.Tables
import Derived.WalkSmall
import Derived.Outline
import Derived.BigQuiet
import Derived.Deep.RegionLaw
import Derived.Laws.EntriesVeiled

namespace Go.Proofs.Ytfnicbfdfceagaa.st
open Go.ChangeShapes Go.WideShapes Go.ChangeAt Go.RowKit Go.Deep
set_option linter.unusedVariables false
set_option linter.unusedSimpArgs false

set_option maxRecDepth 100000
set_option maxHeartbeats 1000000
theorem bytes4 (s : ByteArray) (x y : Int) (hs : s.size ≤ 1048576) (w : World) : Calls Try.prog 4 #[.string s, .int .u32 x, .int .u32 y] w fun e w' => e = .returned (.bool true) ∧ w = w' := by
  have hd : decide ((1048576 : Int) < (s.size : Int)) = false := by simp; omega
  have hd2 : wrap64 (s.size : Int) = (s.size : Int) := by unfold wrap64; omega
  clear hs
  go_enter Try.func4, Try.ntmps4
  go_wp2
  go_ret
  exact ⟨rfl, rfl⟩
theorem bytes4f (s : ByteArray) (x y : Int) (hs : 1048576 < s.size) (w : World) : Calls Try.prog 4 #[.string s, .int .u32 x, .int .u32 y] w fun e w' => e = .returned (.bool false) ∧ w = w' := by
  have hd : decide ((1048576 : Int) < (s.size : Int)) = true := by simp; omega
  clear hs
  go_enter Try.func4, Try.ntmps4
  go_wp2
  go_ret
  exact ⟨rfl, rfl⟩
/-- All bits turned. -/
def flip (x : Int) : Int := bits .xor .u32 IntKind.u32.max x
theorem flip_nat (n : Nat) (h : n < 4294967296) : flip (n : Int) = ((4294967295 - n : Nat) : Int) := by
  unfold flip bits
  have h1 : (BitVec.ofInt 32 (n : Int)).toNat = n := by
    rw [BitVec.ofInt_natCast, BitVec.toNat_ofNat]; exact Nat.mod_eq_of_lt (by omega)
  have h2 : BitVec.ofInt IntKind.u32.bits IntKind.u32.max = (BitVec.allOnes 32 : BitVec IntKind.u32.bits) := by apply BitVec.eq_of_toNat_eq; rfl
  have h3 : (BitVec.allOnes 32 ^^^ BitVec.ofInt 32 (n : Int)).toNat = 4294967295 - n := by
    rw [BitVec.allOnes_xor, BitVec.toNat_not, h1]
  rw [h2]
  show IntKind.u32.wrap ((BitVec.allOnes 32 ^^^ BitVec.ofInt 32 (n : Int)).toNat : Int) = _
  rw [h3, IntKind.wrap_u32]
  omega
theorem mk11 (x : Int) (w : World) : Calls Try.prog 11 #[.int .u32 x] w fun e w' => e = .returned (.agg #[.int .u32 (flip x)]) ∧ Below w.heap.size w w' := by
  go_enter Try.func11, Try.ntmps11
  go_wp2
  refine bodyPost_ret (v := .agg #[.int .u32 (flip x)]) (by simp [results, Try.results11, go_sem, flip]) rfl ?_
  exact ⟨rfl, (Below.refl _ _).alloc (Nat.le_refl _) _⟩
theorem val20 (x : Int) (hx : x ≠ 0) (w : World) : Calls Try.prog 20 #[.agg #[.int .u32 x]] w fun e w' => e = .returned (.bool true) ∧ Below w.heap.size w w' := by
  have hb : (x != 0) = true := by simp [hx]
  go_enter Try.func20, Try.ntmps20
  go_wp2
  go_ret
  exact ⟨by simp [hx], (Below.refl _ _).alloc (Nat.le_refl _) _⟩
theorem get21 (x : Int) (w : World) : Calls Try.prog 21 #[.agg #[.int .u32 x]] w fun e w' => e = .returned (.int .u32 (flip x)) ∧ Below w.heap.size w w' := by
  go_enter Try.func21, Try.ntmps21
  go_wp2
  all_goals first | (exfalso; revert ‹IntKind.u32.signed = true›; decide) | skip
  go_ret
  exact ⟨rfl, (Below.refl _ _).alloc (Nat.le_refl _) _⟩
theorem log8 (w : World) : Calls Try.prog 8 #[.int .u8 0, .map none] w fun e w' => ∃ f0 f1 f2 f3, e = .returned (.agg #[f0, f1, f2, f3, .int .i8 3, .map none]) ∧ Below w.heap.size w w' := by
  go_enter Try.func8, Try.ntmps8
  go_wp2_with fail
  refine bodyPost_ret (v := .agg #[Value.func (Fn.func 13) #[] #[Value.pointer (some { block := w.heap.size, off := 0 }), Value.pointer (some { block := w.heap.size + 1 + 1 + 1, off := 0 }), Value.pointer (some { block := w.heap.size + 1 + 1 + 1 + 1, off := 0 }), Value.pointer (some { block := w.heap.size + 1 + 1, off := 0 })], Value.func (Fn.func 16) #[] #[Value.pointer (some { block := w.heap.size + 1 + 1 + 1, off := 0 }), Value.pointer (some { block := w.heap.size + 1 + 1 + 1 + 1, off := 0 })], Value.func (Fn.func 17) #[] #[Value.pointer (some { block := w.heap.size + 1 + 1 + 1, off := 0 }), Value.pointer (some { block := w.heap.size + 1 + 1, off := 0 })], Value.func (Fn.func 18) #[] #[Value.pointer (some { block := w.heap.size + 1 + 1 + 1, off := 0 }), Value.pointer (some { block := w.heap.size + 1 + 1, off := 0 })], Value.int IntKind.i8 3, Value.map none]) (by simp [results, Try.results8, go_sem]) rfl ?_
  exact ⟨_, _, _, _, rfl, (((((Below.refl _ _).alloc (Nat.le_refl _) _).alloc (by simp) _).alloc (by simp; omega) _).alloc (by simp; omega) _).alloc (by simp; omega) _⟩
/-- The source lies at b. -/
def srcC (s : ByteArray) : Array Value := #[.string ByteArray.empty, .string ByteArray.empty, .string ByteArray.empty, .string s, .string ByteArray.empty, .string ByteArray.empty, .string ByteArray.empty, .string ByteArray.empty, .int .u8 0, .int .u32 0]
def Src (w : World) (b : Nat) (s : ByteArray) : Prop := w.heap[b]? = some (.cells (srcC s) 39 (0, 0))
def trC (s : ByteArray) : Array Value := #[.string s, .string ByteArray.empty, .string ByteArray.empty, .int .i32 0, .int .i32 0, .int .i32 0, .int .i32 0, .bool true, .bool false, .bool true]
theorem Src.lt {w : World} {b : Nat} {s : ByteArray} (h : Src w b s) : b < w.heap.size := (Array.getElem?_eq_some_iff.1 h).1
theorem Src.below {w w' : World} {b : Nat} {s : ByteArray} (h : Src w b s) (hb : Below w.heap.size w w') : Src w' b s := (hb.block b h.lt).trans h
theorem belDrew {n : Nat} (w : World) : Below n w w.drew := ⟨rfl, rfl, rfl, Nat.le_refl _, fun _ _ => rfl⟩
theorem track9 (w : World) (b : Nat) (s : ByteArray) (h : Src w b s) : Calls Try.prog 9 #[.pointer (some ⟨b, 0, none⟩)] w fun e w' => e = .returned (.agg (trC s)) ∧ Below w.heap.size w w' := by
  have hlt := h.lt
  have c3 : w.cell? ⟨b, 3, none⟩ = some (.string s) := cell_of_row _ _ 3 _ _ _ h
  have c0 : w.cell? ⟨b, 0, none⟩ = some (.string ByteArray.empty) := cell_of_row _ _ 0 _ _ _ h
  have c1 : w.cell? ⟨b, 1, none⟩ = some (.string ByteArray.empty) := cell_of_row _ _ 1 _ _ _ h
  have hne : w.heap.size ≠ b := by omega
  clear h
  go_enter Try.func9, Try.ntmps9
  go_wp2_with fail
  go_region
  go_simp
  go_wp2_with fail
  refine bodyPost_ret (v := .agg (trC s)) (by simp [results, Try.results9, go_sem, trC]) rfl ⟨rfl, ?_⟩
  exact (((Below.refl _ _).alloc (Nat.le_refl _) _).trans (belDrew _))
end Go.Proofs.Ytfnicbfdfceagaa.st
