/-
  Comments: the door of the package.
-/
import Derived.Test.YthhlioepgfjknaaMd

namespace Go.Proofs.Ythhlioepgfjknaa.ma
open Go.ChangeShapes Go.WideShapes Go.ChangeAt Go.RowKit Go.Deep Go.Proofs.Ythhlioepgfjknaa.mk
set_option linter.unusedVariables false
set_option linter.unusedSimpArgs false
set_option maxRecDepth 100000
set_option maxHeartbeats 4000000
theorem pz_113 (b : Nat) : (pz b)[113]? = some (.map (some b)) := by kernel_rfl

theorem door_async (w : World) (b : Nat) (eb : Nat) (lb la : Int) : Calls Try.prog 14 #[.map (some b), ex 42 eb lb, lk la, .bool true] w fun e w' => e = .returned (.tuple #[]) ∧ Below w.heap.size w w' := by
  go_enter Try.func14, Try.ntmps14
  go_wp2_with fail
  refine pz_wp (b := b) _ rfl rfl ?_
  go_simp
  have hW : Below w.heap.size w (((w.alloc (Obj.cells #[Value.iface 42 (Value.pointer (some { block := eb, off := 0 })), Value.int IntKind.i32 lb] 30)).alloc (Obj.cells #[Value.int IntKind.i32 la] 28)).alloc (Obj.cells (pz b) 196)) := (((Below.refl _ _).alloc (Nat.le_refl _) _).alloc (by simp) _).alloc (by simp; omega) _
  have c0 : (((w.alloc (Obj.cells #[Value.iface 42 (Value.pointer (some { block := eb, off := 0 })), Value.int IntKind.i32 lb] 30)).alloc (Obj.cells #[Value.int IntKind.i32 la] 28)).alloc (Obj.cells (pz b) 196)).cell? ⟨w.heap.size + 1 + 1, 113, none⟩ = some (.map (some b)) := by
    have h := fun A B C => cell_of_row _ _ 113 _ _ _ (heap_alloc_new ((w.alloc A).alloc B) (Obj.cells C 196 (0, 0)))
    have h := h (Obj.cells #[Value.iface 42 (Value.pointer (some { block := eb, off := 0 })), Value.int IntKind.i32 lb] 30) (Obj.cells #[Value.int IntKind.i32 la] 28) (pz b)
    have h2 : (((w.alloc (Obj.cells #[Value.iface 42 (Value.pointer (some { block := eb, off := 0 })), Value.int IntKind.i32 lb] 30)).alloc (Obj.cells #[Value.int IntKind.i32 la] 28)).alloc (Obj.cells (pz b) 196)).cell? ⟨w.heap.size + 1 + 1, 113, none⟩ = (pz b)[113]? := by simpa using h
    exact h2.trans (pz_113 b)
  have HW := Lib.hid hW
  clear c0 hW
  go_wp2_with (go_at_call 32; refine (mark_async _ _ eb lb la).mono ?_; rintro e w' ⟨rfl, hb⟩)
  have HB := Lib.hid (HW.out.trans (hb.mono HW.out.size))
  clear hb
  go_end0
  exact ⟨rfl, HB.out⟩
theorem door_none (w : World) (b : Nat) (eb : Nat) (lb la : Int) (N : Nat) (M : Value → Option Value) (hm : MapIs w b LocKey N M) (hk : M (lk la) = none) : Calls Try.prog 14 #[.map (some b), ex 42 eb lb, lk la, .bool false] w fun e w' => e = .returned (.tuple #[]) ∧ Below w.heap.size w w' := by
  go_enter Try.func14, Try.ntmps14
  go_wp2_with fail
  refine pz_wp (b := b) _ rfl rfl ?_
  go_simp
  have hW : Below w.heap.size w (((w.alloc (Obj.cells #[Value.iface 42 (Value.pointer (some { block := eb, off := 0 })), Value.int IntKind.i32 lb] 30)).alloc (Obj.cells #[Value.int IntKind.i32 la] 28)).alloc (Obj.cells (pz b) 196)) := (((Below.refl _ _).alloc (Nat.le_refl _) _).alloc (by simp) _).alloc (by simp; omega) _
  have c0 : (((w.alloc (Obj.cells #[Value.iface 42 (Value.pointer (some { block := eb, off := 0 })), Value.int IntKind.i32 lb] 30)).alloc (Obj.cells #[Value.int IntKind.i32 la] 28)).alloc (Obj.cells (pz b) 196)).cell? ⟨w.heap.size + 1 + 1, 113, none⟩ = some (.map (some b)) := by
    have h := fun A B C => cell_of_row _ _ 113 _ _ _ (heap_alloc_new ((w.alloc A).alloc B) (Obj.cells C 196 (0, 0)))
    have h := h (Obj.cells #[Value.iface 42 (Value.pointer (some { block := eb, off := 0 })), Value.int IntKind.i32 lb] 30) (Obj.cells #[Value.int IntKind.i32 la] 28) (pz b)
    have h2 : (((w.alloc (Obj.cells #[Value.iface 42 (Value.pointer (some { block := eb, off := 0 })), Value.int IntKind.i32 lb] 30)).alloc (Obj.cells #[Value.int IntKind.i32 la] 28)).alloc (Obj.cells (pz b) 196)).cell? ⟨w.heap.size + 1 + 1, 113, none⟩ = (pz b)[113]? := by simpa using h
    exact h2.trans (pz_113 b)
  have HW := Lib.hid hW
  have HC := Lib.hid c0
  have HM := Lib.hid (hm.below hW hm.lt)
  clear c0 hW hm
  go_wp2_with (go_at_call 32; refine (mark_none _ _ b eb lb la N M HM.out hk HC.out).mono ?_; rintro e w' ⟨rfl, hb⟩)
  have HB := Lib.hid (HW.out.trans (hb.mono HW.out.size))
  clear hb
  go_end0
  exact ⟨rfl, HB.out⟩
theorem door_some (w : World) (b : Nat) (eb : Nat) (lb la : Int) (N : Nat) (M : Value → Option Value) (hm : MapIs w b LocKey N M) (a : Option Addr) (n : Nat) (z : Nat → ByteArray) (hk : M (lk la) = some (.slice a n n)) (hr : Row w a n (fun i => .string (z i))) (ha : a = none → n = 0)
    (g : Option Addr) (m c : Nat) (y : Nat → ByteArray) (hg : (del M (lk la) (lk lb)).getD (.slice none 0 0) = .slice g m c) (hy : Row w g m (fun i => .string (y i))) (hgn : g = none → m = 0) (hn : n + m ≤ 1048576)
    (hab : ∀ x, a = some x → x.block ≠ b) (hgb : ∀ x, g = some x → x.block ≠ b) (N' : Nat) (hN' : (if (del M (lk la) (lk lb)).isSome then N - 1 else N - 1 + 1) = N') :
    Calls Try.prog 14 #[.map (some b), ex 42 eb lb, lk la, .bool false] w fun e w' => e = .returned (.tuple #[]) ∧ Touch (fun k => k = b) w w' ∧ ∃ v', Rs w' v' (n + m) (cat z n y) ∧ MapIs w' b LocKey N' (upd (del M (lk la)) (lk lb) v') := by
  have hbl := hm.lt
  go_enter Try.func14, Try.ntmps14
  go_wp2_with fail
  refine pz_wp (b := b) _ rfl rfl ?_
  go_simp
  have hW : Below w.heap.size w (((w.alloc (Obj.cells #[Value.iface 42 (Value.pointer (some { block := eb, off := 0 })), Value.int IntKind.i32 lb] 30)).alloc (Obj.cells #[Value.int IntKind.i32 la] 28)).alloc (Obj.cells (pz b) 196)) := (((Below.refl _ _).alloc (Nat.le_refl _) _).alloc (by simp) _).alloc (by simp; omega) _
  have c0 : (((w.alloc (Obj.cells #[Value.iface 42 (Value.pointer (some { block := eb, off := 0 })), Value.int IntKind.i32 lb] 30)).alloc (Obj.cells #[Value.int IntKind.i32 la] 28)).alloc (Obj.cells (pz b) 196)).cell? ⟨w.heap.size + 1 + 1, 113, none⟩ = some (.map (some b)) := by
    have h := fun A B C => cell_of_row _ _ 113 _ _ _ (heap_alloc_new ((w.alloc A).alloc B) (Obj.cells C 196 (0, 0)))
    have h := h (Obj.cells #[Value.iface 42 (Value.pointer (some { block := eb, off := 0 })), Value.int IntKind.i32 lb] 30) (Obj.cells #[Value.int IntKind.i32 la] 28) (pz b)
    have h2 : (((w.alloc (Obj.cells #[Value.iface 42 (Value.pointer (some { block := eb, off := 0 })), Value.int IntKind.i32 lb] 30)).alloc (Obj.cells #[Value.int IntKind.i32 la] 28)).alloc (Obj.cells (pz b) 196)).cell? ⟨w.heap.size + 1 + 1, 113, none⟩ = (pz b)[113]? := by simpa using h
    exact h2.trans (pz_113 b)
  have HW := Lib.hid hW
  have HX := Lib.hid (mark_some (((w.alloc (Obj.cells #[Value.iface 42 (Value.pointer (some { block := eb, off := 0 })), Value.int IntKind.i32 lb] 30)).alloc (Obj.cells #[Value.int IntKind.i32 la] 28)).alloc (Obj.cells (pz b) 196)) (w.heap.size + 1 + 1) b eb lb la N M (hm.below hW hm.lt) a n z hk (hr.below hW) ha g m c y hg (hy.below hW) hgn hn hab hgb c0 (by omega) N' hN')
  clear c0 hW hm hN' hg
  go_wp2_with (go_at_call 32; refine (HX.out).mono ?_; rintro e w' ⟨rfl, ht, v, hv, hmm⟩)
  have HT : Hid (Touch (fun k => k = b) w w') := Lib.hid ((Touch.of_below HW.out _).trans ht)
  have HV := Lib.hid hv
  have HMM := Lib.hid hmm
  clear ht hv hmm
  go_end0
  exact ⟨rfl, HT.out, v, HV.out, HMM.out⟩
end Go.Proofs.Ythhlioepgfjknaa.ma
