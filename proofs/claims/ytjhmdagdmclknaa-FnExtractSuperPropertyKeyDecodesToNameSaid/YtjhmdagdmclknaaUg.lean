/-
  The table statement walked.
-/
import Derived.Test.YtjhmdagdmclknaaUf
namespace Go.Proofs.Ytjhmdagdmclknaa.ut
open Go.ChangeShapes Go.WideShapes Go.ChangeAt Go.RowKit Go.Deep Go.Proofs.Ytjhmdagdmclknaa.u8
set_option linter.unusedVariables false
set_option linter.unusedSimpArgs false

theorem bytes13 (w : World) (lo su : Bool) (f : Int) (name : ByteArray) (nl il tl l : Int) (v : Bool) (hv : decide (name.size ≤ 1048576) = v) (hm : name.size ≤ maxLen) :
    Calls Try.prog 13 #[.bool lo, .int .u8 f, .bool su, .string name, .int .i32 nl, .int .i32 il, .int .i32 tl, .int .i32 l] w fun e w' => e = .returned (.bool v) ∧ w = w' := by
  unfold maxLen at hm
  have HV := Lib.hid hv
  clear hv
  by_cases h1 : 1048576 < name.size
  · obtain rfl : v = false := by rw [← HV.out]; simp; omega
    go_enter Try.func13, Try.ntmps13
    go_wp2_with fail
    go_ret
    exact ⟨rfl, rfl⟩
  obtain rfl : v = true := by rw [← HV.out]; simp; omega
  go_enter Try.func13, Try.ntmps13
  go_wp2_with fail
  go_ret
  exact ⟨rfl, rfl⟩
/-- The two cells of an expression variable. -/
structure Var (w : World) (A : Nat) (v : Value) (l : Int) : Prop where
  lt : A < w.heap.size
  c0 : w.cell? ⟨A, 0, none⟩ = some v
  c1 : w.cell? ⟨A, 1, none⟩ = some (.int .i32 l)
  f0 : w.frozen? ⟨A, 0, none⟩ = false
  f1 : w.frozen? ⟨A, 1, none⟩ = false
theorem Var.below {w w' : World} {A : Nat} {v : Value} {l : Int} (h : Var w A v l) (hb : Below w.heap.size w w') : Var w' A v l := by
  obtain ⟨h0, h1, h2, h3, h4⟩ := h
  exact ⟨Nat.lt_of_lt_of_le h0 hb.size, (hb.cell (p := ⟨A, 0, none⟩) h0).trans h1, (hb.cell (p := ⟨A, 1, none⟩) h0).trans h2, (hb.frozen (p := ⟨A, 0, none⟩) h0).trans h3, (hb.frozen (p := ⟨A, 1, none⟩) h0).trans h4⟩
theorem Var.new (w : World) (v : Value) (l : Int) : Var (w.alloc (.cells #[v, .int .i32 l] 31)) w.heap.size v l := by
  refine ⟨by simp, ?_, ?_, ?_, ?_⟩
  · rw [World.cell?_alloc_at _ _ _ _ rfl]; rfl
  · rw [World.cell?_alloc_at _ _ _ _ rfl]; rfl
  · rw [World.frozen?_alloc_at _ _ _ _ rfl]
  · rw [World.frozen?_alloc_at _ _ _ _ rfl]
/-- An assignment to an expression variable. -/
def sto (w : World) (A : Nat) (v : Value) (l : Int) : World := (w.setCell ⟨A, 0, none⟩ v).setCell ⟨A, 1, none⟩ (.int .i32 l)
theorem sto_size (w : World) (A : Nat) (v : Value) (l : Int) : (sto w A v l).heap.size = w.heap.size := by simp [sto, World.setCell]
theorem sto_block (w : World) (A : Nat) (v : Value) (l : Int) {q : Nat} (h : q ≠ A) : (sto w A v l).heap[q]? = w.heap[q]? := by
  unfold sto
  rw [Below.heap_setCell _ _ _ _ (by exact h), Below.heap_setCell _ _ _ _ (by exact h)]
theorem sto_below {B : Nat} {a w : World} {A : Nat} (h : Below B a w) (hA : B ≤ A) (v : Value) (l : Int) : Below B a (sto w A v l) := (h.setCell (by exact hA) _).setCell (by exact hA) _
theorem Var.sto {w : World} {A : Nat} {v0 : Value} {l0 : Int} (h : Var w A v0 l0) (v : Value) (l : Int) : Var (sto w A v l) A v l := by
  obtain ⟨h0, h1, h2, h3, h4⟩ := h
  refine ⟨by rw [sto_size]; exact h0, ?_, ?_, ?_, ?_⟩
  · unfold ut.sto
    have hne : (⟨A, 0, none⟩ : Addr) ≠ ⟨A, 1, none⟩ := by simp
    rw [World.cell?_setCell_other _ _ _ _ (by simp)]
    exact World.cell?_setCell_same _ _ _ h1
  · unfold ut.sto
    have : (w.setCell ⟨A, 0, none⟩ v).cell? ⟨A, 1, none⟩ = some (.int .i32 l0) := by rw [World.cell?_setCell_other _ _ _ _ (by simp)]; exact h2
    exact World.cell?_setCell_same _ _ _ this
  · unfold ut.sto; simpa [World.frozen?_setCell] using h3
  · unfold ut.sto; simpa [World.frozen?_setCell] using h4
theorem Var.other {w w' : World} {A : Nat} {v : Value} {l : Int} (h : Var w A v l) (hs : w.heap.size ≤ w'.heap.size) (e : w'.heap[A]? = w.heap[A]?) : Var w' A v l := by
  obtain ⟨h0, h1, h2, h3, h4⟩ := h
  exact ⟨Nat.lt_of_lt_of_le h0 hs, (World.cell?_of_block (a := ⟨A, 0, none⟩) e).trans h1, (World.cell?_of_block (a := ⟨A, 1, none⟩) e).trans h2, (World.frozen?_of_block (a := ⟨A, 0, none⟩) e).trans h3, (World.frozen?_of_block (a := ⟨A, 1, none⟩) e).trans h4⟩
theorem Dot.of_block {w w' : World} {b T tb : Nat} {tl nl : Int} {name : ByteArray} (h : Dot w b T tb tl name nl) (e : w'.heap[b]? = w.heap[b]?) : Dot w' b T tb tl name nl := by
  obtain ⟨h0, h1, h2, h3⟩ := h
  exact ⟨(World.cell?_of_block (a := ⟨b, 0, none⟩) e).trans h0, (World.cell?_of_block (a := ⟨b, 1, none⟩) e).trans h1, (World.cell?_of_block (a := ⟨b, 2, none⟩) e).trans h2, (World.cell?_of_block (a := ⟨b, 3, none⟩) e).trans h3⟩
theorem Idx.of_block {w w' : World} {b T tb ib : Nat} {tl il : Int} (h : Idx w b T tb tl ib il) (e : w'.heap[b]? = w.heap[b]?) : Idx w' b T tb tl ib il := by
  obtain ⟨h0, h1, h2, h3⟩ := h
  exact ⟨(World.cell?_of_block (a := ⟨b, 0, none⟩) e).trans h0, (World.cell?_of_block (a := ⟨b, 1, none⟩) e).trans h1, (World.cell?_of_block (a := ⟨b, 2, none⟩) e).trans h2, (World.cell?_of_block (a := ⟨b, 3, none⟩) e).trans h3⟩
set_option maxRecDepth 100000 in
set_option maxHeartbeats 8000000 in
theorem law52_bare_t174 (w : World) (name : ByteArray) (hn : name.size ≤ 65536) (nl il tl l : Int) :
    Calls Try.prog 4 #[.bool true, .int .u8 2, .bool true, .string name, .int .i32 nl, .int .i32 il, .int .i32 tl, .int .i32 l] w fun e w' => e = .returned (.bool true) ∧ Below w.heap.size w w' := by
  have hn2 : name.size ≤ 1048576 := by omega
  have H13 := Lib.hid (bytes13 w true true 2 name nl il tl l true (by simp; omega) (by unfold maxLen; omega))
  have HN := Lib.hid hn2
  clear hn2
  go_enter Try.func4, Try.ntmps4
  go_wp2_with (go_at_call 13; (with_reducible refine H13.out.mono ?_); rintro e w' ⟨rfl, rfl⟩)
  refine (super9 _ tl).mono ?_
  rintro e w1 ⟨tb, rfl, hb⟩
  have V1 := (Var.new w .nilIface 0).below hb
  obtain ⟨hz, r0, r1, r2, r3⟩ := V1
  have HB1 := Lib.hid (((Below.refl w.heap.size w).alloc (Nat.le_refl _) (.cells #[.nilIface, .int .i32 0] 31)).trans (hb.mono (by simp)))
  have VX := Var.new (sto w1 w.heap.size (.iface 174 (.pointer (some ⟨tb, 0, none⟩))) tl) (.iface 174 (.pointer (some ⟨tb, 0, none⟩))) tl
  rw [sto_size] at VX
  have HVX := Lib.hid VX
  have HT := Lib.hid (((⟨hz, r0, r1, r2, r3⟩ : Var w1 w.heap.size .nilIface 0).sto (.iface 174 (.pointer (some ⟨tb, 0, none⟩))) tl).below ((Below.refl _ _).alloc (Nat.le_refl _) (.cells #[(.iface 174 (.pointer (some ⟨tb, 0, none⟩))), .int .i32 tl] 31)))
  have HBX := Lib.hid ((sto_below HB1.out (Nat.le_refl _) (.iface 174 (.pointer (some ⟨tb, 0, none⟩))) tl).alloc (by rw [sto_size]; exact HB1.out.size) (.cells #[(.iface 174 (.pointer (some ⟨tb, 0, none⟩))), .int .i32 tl] 31))
  have hXs : ((sto w1 w.heap.size (.iface 174 (.pointer (some ⟨tb, 0, none⟩))) tl).alloc (.cells #[(.iface 174 (.pointer (some ⟨tb, 0, none⟩))), .int .i32 tl] 31)).heap.size = w1.heap.size + 1 := by simp [sto_size]
  have HXS := Lib.hid hXs
  clear hb VX hXs
  have q0 : ((2 : Int) == 0) = false := by decide
  have q1 : ((2 : Int) == 1) = false := by decide
  go_simp
  go_wp2_with fail
  generalize hX : (sto w1 w.heap.size (.iface 174 (.pointer (some ⟨tb, 0, none⟩))) tl).alloc (.cells #[(.iface 174 (.pointer (some ⟨tb, 0, none⟩))), .int .i32 tl] 31) = X at *
  unfold sto at hX
  rw [hX]
  clear hX r0 r1 r2 r3
  refine (new7 _ true).mono ?_
  rintro e w5 ⟨PB, rfl, hp, hb5⟩
  have HV5 := Lib.hid (HVX.out.below hb5)
  have HB5 := Lib.hid (HBX.out.trans (hb5.mono HBX.out.size))
  have HP := Lib.hid hp
  clear hb5 hp
  obtain ⟨hz5, r0, r1, r2, r3⟩ := HV5.out
  go_simp
  go_wp2_with fail
  refine (ex10_bare_t174 _ PB tb tl HP.out).mono ?_
  rintro e w6 ⟨rfl, hb6⟩
  have HB6 := Lib.hid (HB5.out.trans (hb6.mono HB5.out.size))
  clear hb6 r0 r1 r2 r3
  go_simp
  go_wp2_with fail
  go_ret
  exact ⟨rfl, HB6.out.alloc HB6.out.size _⟩
set_option maxRecDepth 100000 in
set_option maxHeartbeats 8000000 in
theorem law52_bare_t184 (w : World) (name : ByteArray) (hn : name.size ≤ 65536) (nl il tl l : Int) :
    Calls Try.prog 4 #[.bool true, .int .u8 2, .bool false, .string name, .int .i32 nl, .int .i32 il, .int .i32 tl, .int .i32 l] w fun e w' => e = .returned (.bool true) ∧ Below w.heap.size w w' := by
  have hn2 : name.size ≤ 1048576 := by omega
  have H13 := Lib.hid (bytes13 w true false 2 name nl il tl l true (by simp; omega) (by unfold maxLen; omega))
  have HN := Lib.hid hn2
  clear hn2
  go_enter Try.func4, Try.ntmps4
  go_wp2_with (go_at_call 13; (with_reducible refine H13.out.mono ?_); rintro e w' ⟨rfl, rfl⟩)
  refine (ref15 _).mono ?_
  rintro e w0 ⟨rfl, hb0⟩
  go_simp
  go_wp2_with fail
  refine (ident14 _ tl 0 3).mono ?_
  rintro e w1 ⟨tb, rfl, hb1⟩
  have hb := hb0.trans (hb1.mono hb0.size)
  clear hb0 hb1
  have V1 := (Var.new w .nilIface 0).below hb
  obtain ⟨hz, r0, r1, r2, r3⟩ := V1
  have HB1 := Lib.hid (((Below.refl w.heap.size w).alloc (Nat.le_refl _) (.cells #[.nilIface, .int .i32 0] 31)).trans (hb.mono (by simp)))
  have VX := Var.new (sto w1 w.heap.size (.iface 184 (.pointer (some ⟨tb, 0, none⟩))) tl) (.iface 184 (.pointer (some ⟨tb, 0, none⟩))) tl
  rw [sto_size] at VX
  have HVX := Lib.hid VX
  have HT := Lib.hid (((⟨hz, r0, r1, r2, r3⟩ : Var w1 w.heap.size .nilIface 0).sto (.iface 184 (.pointer (some ⟨tb, 0, none⟩))) tl).below ((Below.refl _ _).alloc (Nat.le_refl _) (.cells #[(.iface 184 (.pointer (some ⟨tb, 0, none⟩))), .int .i32 tl] 31)))
  have HBX := Lib.hid ((sto_below HB1.out (Nat.le_refl _) (.iface 184 (.pointer (some ⟨tb, 0, none⟩))) tl).alloc (by rw [sto_size]; exact HB1.out.size) (.cells #[(.iface 184 (.pointer (some ⟨tb, 0, none⟩))), .int .i32 tl] 31))
  have hXs : ((sto w1 w.heap.size (.iface 184 (.pointer (some ⟨tb, 0, none⟩))) tl).alloc (.cells #[(.iface 184 (.pointer (some ⟨tb, 0, none⟩))), .int .i32 tl] 31)).heap.size = w1.heap.size + 1 := by simp [sto_size]
  have HXS := Lib.hid hXs
  clear hb VX hXs
  have q0 : ((2 : Int) == 0) = false := by decide
  have q1 : ((2 : Int) == 1) = false := by decide
  go_simp
  go_wp2_with fail
  generalize hX : (sto w1 w.heap.size (.iface 184 (.pointer (some ⟨tb, 0, none⟩))) tl).alloc (.cells #[(.iface 184 (.pointer (some ⟨tb, 0, none⟩))), .int .i32 tl] 31) = X at *
  unfold sto at hX
  rw [hX]
  clear hX r0 r1 r2 r3
  refine (new7 _ true).mono ?_
  rintro e w5 ⟨PB, rfl, hp, hb5⟩
  have HV5 := Lib.hid (HVX.out.below hb5)
  have HB5 := Lib.hid (HBX.out.trans (hb5.mono HBX.out.size))
  have HP := Lib.hid hp
  clear hb5 hp
  obtain ⟨hz5, r0, r1, r2, r3⟩ := HV5.out
  go_simp
  go_wp2_with fail
  refine (ex10_bare_t184 _ PB tb tl HP.out).mono ?_
  rintro e w6 ⟨rfl, hb6⟩
  have HB6 := Lib.hid (HB5.out.trans (hb6.mono HB5.out.size))
  clear hb6 r0 r1 r2 r3
  go_simp
  go_wp2_with fail
  go_ret
  exact ⟨rfl, HB6.out.alloc HB6.out.size _⟩
set_option maxRecDepth 100000 in
set_option maxHeartbeats 8000000 in
theorem law52_bare_f174 (w : World) (name : ByteArray) (hn : name.size ≤ 65536) (nl il tl l : Int) :
    Calls Try.prog 4 #[.bool false, .int .u8 2, .bool true, .string name, .int .i32 nl, .int .i32 il, .int .i32 tl, .int .i32 l] w fun e w' => e = .returned (.bool true) ∧ Below w.heap.size w w' := by
  have hn2 : name.size ≤ 1048576 := by omega
  have H13 := Lib.hid (bytes13 w false true 2 name nl il tl l true (by simp; omega) (by unfold maxLen; omega))
  have HN := Lib.hid hn2
  clear hn2
  go_enter Try.func4, Try.ntmps4
  go_wp2_with (go_at_call 13; (with_reducible refine H13.out.mono ?_); rintro e w' ⟨rfl, rfl⟩)
  refine (super9 _ tl).mono ?_
  rintro e w1 ⟨tb, rfl, hb⟩
  have V1 := (Var.new w .nilIface 0).below hb
  obtain ⟨hz, r0, r1, r2, r3⟩ := V1
  have HB1 := Lib.hid (((Below.refl w.heap.size w).alloc (Nat.le_refl _) (.cells #[.nilIface, .int .i32 0] 31)).trans (hb.mono (by simp)))
  have VX := Var.new (sto w1 w.heap.size (.iface 174 (.pointer (some ⟨tb, 0, none⟩))) tl) (.iface 174 (.pointer (some ⟨tb, 0, none⟩))) tl
  rw [sto_size] at VX
  have HVX := Lib.hid VX
  have HT := Lib.hid (((⟨hz, r0, r1, r2, r3⟩ : Var w1 w.heap.size .nilIface 0).sto (.iface 174 (.pointer (some ⟨tb, 0, none⟩))) tl).below ((Below.refl _ _).alloc (Nat.le_refl _) (.cells #[(.iface 174 (.pointer (some ⟨tb, 0, none⟩))), .int .i32 tl] 31)))
  have HBX := Lib.hid ((sto_below HB1.out (Nat.le_refl _) (.iface 174 (.pointer (some ⟨tb, 0, none⟩))) tl).alloc (by rw [sto_size]; exact HB1.out.size) (.cells #[(.iface 174 (.pointer (some ⟨tb, 0, none⟩))), .int .i32 tl] 31))
  have hXs : ((sto w1 w.heap.size (.iface 174 (.pointer (some ⟨tb, 0, none⟩))) tl).alloc (.cells #[(.iface 174 (.pointer (some ⟨tb, 0, none⟩))), .int .i32 tl] 31)).heap.size = w1.heap.size + 1 := by simp [sto_size]
  have HXS := Lib.hid hXs
  clear hb VX hXs
  have q0 : ((2 : Int) == 0) = false := by decide
  have q1 : ((2 : Int) == 1) = false := by decide
  go_simp
  go_wp2_with fail
  generalize hX : (sto w1 w.heap.size (.iface 174 (.pointer (some ⟨tb, 0, none⟩))) tl).alloc (.cells #[(.iface 174 (.pointer (some ⟨tb, 0, none⟩))), .int .i32 tl] 31) = X at *
  unfold sto at hX
  rw [hX]
  clear hX r0 r1 r2 r3
  refine (new7 _ false).mono ?_
  rintro e w5 ⟨PB, rfl, hp, hb5⟩
  have HV5 := Lib.hid (HVX.out.below hb5)
  have HB5 := Lib.hid (HBX.out.trans (hb5.mono HBX.out.size))
  have HP := Lib.hid hp
  clear hb5 hp
  obtain ⟨hz5, r0, r1, r2, r3⟩ := HV5.out
  go_simp
  go_wp2_with fail
  refine (ex10_bare_f174 _ PB tb tl HP.out).mono ?_
  rintro e w6 ⟨rfl, hb6⟩
  have HB6 := Lib.hid (HB5.out.trans (hb6.mono HB5.out.size))
  clear hb6 r0 r1 r2 r3
  go_simp
  go_wp2_with fail
  go_ret
  exact ⟨rfl, HB6.out.alloc HB6.out.size _⟩
set_option maxRecDepth 100000 in
set_option maxHeartbeats 8000000 in
theorem law52_bare_f184 (w : World) (name : ByteArray) (hn : name.size ≤ 65536) (nl il tl l : Int) :
    Calls Try.prog 4 #[.bool false, .int .u8 2, .bool false, .string name, .int .i32 nl, .int .i32 il, .int .i32 tl, .int .i32 l] w fun e w' => e = .returned (.bool true) ∧ Below w.heap.size w w' := by
  have hn2 : name.size ≤ 1048576 := by omega
  have H13 := Lib.hid (bytes13 w false false 2 name nl il tl l true (by simp; omega) (by unfold maxLen; omega))
  have HN := Lib.hid hn2
  clear hn2
  go_enter Try.func4, Try.ntmps4
  go_wp2_with (go_at_call 13; (with_reducible refine H13.out.mono ?_); rintro e w' ⟨rfl, rfl⟩)
  refine (ref15 _).mono ?_
  rintro e w0 ⟨rfl, hb0⟩
  go_simp
  go_wp2_with fail
  refine (ident14 _ tl 0 3).mono ?_
  rintro e w1 ⟨tb, rfl, hb1⟩
  have hb := hb0.trans (hb1.mono hb0.size)
  clear hb0 hb1
  have V1 := (Var.new w .nilIface 0).below hb
  obtain ⟨hz, r0, r1, r2, r3⟩ := V1
  have HB1 := Lib.hid (((Below.refl w.heap.size w).alloc (Nat.le_refl _) (.cells #[.nilIface, .int .i32 0] 31)).trans (hb.mono (by simp)))
  have VX := Var.new (sto w1 w.heap.size (.iface 184 (.pointer (some ⟨tb, 0, none⟩))) tl) (.iface 184 (.pointer (some ⟨tb, 0, none⟩))) tl
  rw [sto_size] at VX
  have HVX := Lib.hid VX
  have HT := Lib.hid (((⟨hz, r0, r1, r2, r3⟩ : Var w1 w.heap.size .nilIface 0).sto (.iface 184 (.pointer (some ⟨tb, 0, none⟩))) tl).below ((Below.refl _ _).alloc (Nat.le_refl _) (.cells #[(.iface 184 (.pointer (some ⟨tb, 0, none⟩))), .int .i32 tl] 31)))
  have HBX := Lib.hid ((sto_below HB1.out (Nat.le_refl _) (.iface 184 (.pointer (some ⟨tb, 0, none⟩))) tl).alloc (by rw [sto_size]; exact HB1.out.size) (.cells #[(.iface 184 (.pointer (some ⟨tb, 0, none⟩))), .int .i32 tl] 31))
  have hXs : ((sto w1 w.heap.size (.iface 184 (.pointer (some ⟨tb, 0, none⟩))) tl).alloc (.cells #[(.iface 184 (.pointer (some ⟨tb, 0, none⟩))), .int .i32 tl] 31)).heap.size = w1.heap.size + 1 := by simp [sto_size]
  have HXS := Lib.hid hXs
  clear hb VX hXs
  have q0 : ((2 : Int) == 0) = false := by decide
  have q1 : ((2 : Int) == 1) = false := by decide
  go_simp
  go_wp2_with fail
  generalize hX : (sto w1 w.heap.size (.iface 184 (.pointer (some ⟨tb, 0, none⟩))) tl).alloc (.cells #[(.iface 184 (.pointer (some ⟨tb, 0, none⟩))), .int .i32 tl] 31) = X at *
  unfold sto at hX
  rw [hX]
  clear hX r0 r1 r2 r3
  refine (new7 _ false).mono ?_
  rintro e w5 ⟨PB, rfl, hp, hb5⟩
  have HV5 := Lib.hid (HVX.out.below hb5)
  have HB5 := Lib.hid (HBX.out.trans (hb5.mono HBX.out.size))
  have HP := Lib.hid hp
  clear hb5 hp
  obtain ⟨hz5, r0, r1, r2, r3⟩ := HV5.out
  go_simp
  go_wp2_with fail
  refine (ex10_bare_f184 _ PB tb tl HP.out).mono ?_
  rintro e w6 ⟨rfl, hb6⟩
  have HB6 := Lib.hid (HB5.out.trans (hb6.mono HB5.out.size))
  clear hb6 r0 r1 r2 r3
  go_simp
  go_wp2_with fail
  go_ret
  exact ⟨rfl, HB6.out.alloc HB6.out.size _⟩
set_option maxRecDepth 100000 in
set_option maxHeartbeats 8000000 in
theorem law52_dot_t174 (w : World) (name : ByteArray) (hn : name.size ≤ 65536) (nl il tl l : Int) :
    Calls Try.prog 4 #[.bool true, .int .u8 0, .bool true, .string name, .int .i32 nl, .int .i32 il, .int .i32 tl, .int .i32 l] w fun e w' => e = .returned (.bool true) ∧ Below w.heap.size w w' := by
  have hn2 : name.size ≤ 1048576 := by omega
  have H13 := Lib.hid (bytes13 w true true 0 name nl il tl l true (by simp; omega) (by unfold maxLen; omega))
  have HN := Lib.hid hn2
  clear hn2
  go_enter Try.func4, Try.ntmps4
  go_wp2_with (go_at_call 13; (with_reducible refine H13.out.mono ?_); rintro e w' ⟨rfl, rfl⟩)
  refine (super9 _ tl).mono ?_
  rintro e w1 ⟨tb, rfl, hb⟩
  have V1 := (Var.new w .nilIface 0).below hb
  obtain ⟨hz, r0, r1, r2, r3⟩ := V1
  have HB1 := Lib.hid (((Below.refl w.heap.size w).alloc (Nat.le_refl _) (.cells #[.nilIface, .int .i32 0] 31)).trans (hb.mono (by simp)))
  have VX := Var.new (sto w1 w.heap.size (.iface 174 (.pointer (some ⟨tb, 0, none⟩))) tl) (.iface 174 (.pointer (some ⟨tb, 0, none⟩))) tl
  rw [sto_size] at VX
  have HVX := Lib.hid VX
  have HT := Lib.hid (((⟨hz, r0, r1, r2, r3⟩ : Var w1 w.heap.size .nilIface 0).sto (.iface 174 (.pointer (some ⟨tb, 0, none⟩))) tl).below ((Below.refl _ _).alloc (Nat.le_refl _) (.cells #[(.iface 174 (.pointer (some ⟨tb, 0, none⟩))), .int .i32 tl] 31)))
  have HBX := Lib.hid ((sto_below HB1.out (Nat.le_refl _) (.iface 174 (.pointer (some ⟨tb, 0, none⟩))) tl).alloc (by rw [sto_size]; exact HB1.out.size) (.cells #[(.iface 174 (.pointer (some ⟨tb, 0, none⟩))), .int .i32 tl] 31))
  have hXs : ((sto w1 w.heap.size (.iface 174 (.pointer (some ⟨tb, 0, none⟩))) tl).alloc (.cells #[(.iface 174 (.pointer (some ⟨tb, 0, none⟩))), .int .i32 tl] 31)).heap.size = w1.heap.size + 1 := by simp [sto_size]
  have HXS := Lib.hid hXs
  clear hb VX hXs
  have q0 : ((0 : Int) == 0) = true := by decide
  have q1 : ((0 : Int) == 1) = false := by decide
  go_simp
  go_wp2_with fail
  generalize hX : (sto w1 w.heap.size (.iface 174 (.pointer (some ⟨tb, 0, none⟩))) tl).alloc (.cells #[(.iface 174 (.pointer (some ⟨tb, 0, none⟩))), .int .i32 tl] 31) = X at *
  unfold sto at hX
  rw [hX]
  clear hX r0 r1 r2 r3
  refine (dot8 _ 174 tb tl l name nl).mono ?_
  rintro e w4 ⟨b, rfl, hd, hbase, hb4⟩
  have HV4 := Lib.hid (HVX.out.below hb4)
  have hbe : b ≠ w1.heap.size := by have := HXS.out; omega
  have HD4 := Lib.hid (hd.of_block (sto_block w4 w1.heap.size (.iface 170 (.pointer (some ⟨b, 0, none⟩))) l hbe))
  have HVS := Lib.hid (HV4.out.sto (.iface 170 (.pointer (some ⟨b, 0, none⟩))) l)
  have HB4 := Lib.hid (HBX.out.trans (hb4.mono HBX.out.size))
  have HBS := Lib.hid (sto_below HB4.out HB1.out.size (.iface 170 (.pointer (some ⟨b, 0, none⟩))) l)
  obtain ⟨hz4, r0, r1, r2, r3⟩ := HV4.out
  clear hb4 hd hbase
  go_simp
  go_wp2_with fail
  generalize hY : sto w4 w1.heap.size (.iface 170 (.pointer (some ⟨b, 0, none⟩))) l = Y at *
  unfold sto at hY
  rw [hY]
  clear hY r0 r1 r2 r3
  refine (new7 _ true).mono ?_
  rintro e w5 ⟨PB, rfl, hp, hb5⟩
  have HV5 := Lib.hid (HVS.out.below hb5)
  have HD5 := Lib.hid (HD4.out.below hb5)
  have HB5 := Lib.hid (HBS.out.trans (hb5.mono HBS.out.size))
  have HP := Lib.hid hp
  clear hb5 hp
  obtain ⟨hz5, r0, r1, r2, r3⟩ := HV5.out
  go_simp
  go_wp2_with fail
  refine (ex10_dot_t174 _ PB b tb tl l nl name HN.out HP.out HD5.out).mono ?_
  rintro e w6 ⟨b2, rfl, hst, hb6⟩
  have HST := Lib.hid (hst.str.below ((Below.refl _ _).alloc (Nat.le_refl _) (.cells #[.iface 178 (.pointer (some ⟨b2, 0, none⟩)), .int .i32 nl] 31)))
  have HB6 := Lib.hid (HB5.out.trans (hb6.mono HB5.out.size))
  have HBA := Lib.hid (HB6.out.alloc HB6.out.size (.cells #[.iface 178 (.pointer (some ⟨b2, 0, none⟩)), .int .i32 nl] 31))
  have HVA := Lib.hid (Var.new w6 (.iface 178 (.pointer (some ⟨b2, 0, none⟩))) nl)
  clear hst hb6 r0 r1 r2 r3
  go_simp
  go_wp2_with fail
  generalize w6.alloc (.cells #[.iface 178 (.pointer (some ⟨b2, 0, none⟩)), .int .i32 nl] 31) = wA at *
  refine (read11 wA b2 nl _ HST.out).mono ?_
  rintro e w7 ⟨a7, c7, rfl, hrow, hb7⟩
  have HR7 := Lib.hid hrow
  have HV7 := Lib.hid (HVA.out.below hb7)
  have HB7 := Lib.hid (HBA.out.trans (hb7.mono HBA.out.size))
  obtain ⟨_, s0, s1, _, _⟩ := HV7.out
  have qe : (nl == nl) = true := by simp
  clear hrow hb7
  go_simp
  go_wp2_with fail
  refine (zz _ name HN.out).mono ?_
  rintro e w8 ⟨⟨v8, rfl, hv8⟩, hb8⟩
  obtain ⟨a8, c8, rfl, hr8⟩ := hv8.keep (w' := w8) (fun _ _ _ => rfl)
  have HR8 := Lib.hid hr8
  have HR78 := Lib.hid (HR7.out.below hb8)
  have HB8 := Lib.hid (HB7.out.trans (hb8.mono HB7.out.size))
  clear hv8 hr8 hb8
  go_simp
  go_wp2_with fail
  refine (eq18 w8 a7 a8 c7 c8 (us name name.size 0) (by have := us_len name; omega) HR78.out HR8.out).mono ?_
  rintro e w9 ⟨rfl, hb9⟩
  have HB9 := Lib.hid (HB8.out.trans (hb9.mono HB8.out.size))
  clear hb9
  go_simp
  go_wp2_with fail
  go_ret
  exact ⟨rfl, HB9.out⟩
set_option maxRecDepth 100000 in
set_option maxHeartbeats 8000000 in
theorem law52_dot_t184 (w : World) (name : ByteArray) (hn : name.size ≤ 65536) (nl il tl l : Int) :
    Calls Try.prog 4 #[.bool true, .int .u8 0, .bool false, .string name, .int .i32 nl, .int .i32 il, .int .i32 tl, .int .i32 l] w fun e w' => e = .returned (.bool true) ∧ Below w.heap.size w w' := by
  have hn2 : name.size ≤ 1048576 := by omega
  have H13 := Lib.hid (bytes13 w true false 0 name nl il tl l true (by simp; omega) (by unfold maxLen; omega))
  have HN := Lib.hid hn2
  clear hn2
  go_enter Try.func4, Try.ntmps4
  go_wp2_with (go_at_call 13; (with_reducible refine H13.out.mono ?_); rintro e w' ⟨rfl, rfl⟩)
  refine (ref15 _).mono ?_
  rintro e w0 ⟨rfl, hb0⟩
  go_simp
  go_wp2_with fail
  refine (ident14 _ tl 0 3).mono ?_
  rintro e w1 ⟨tb, rfl, hb1⟩
  have hb := hb0.trans (hb1.mono hb0.size)
  clear hb0 hb1
  have V1 := (Var.new w .nilIface 0).below hb
  obtain ⟨hz, r0, r1, r2, r3⟩ := V1
  have HB1 := Lib.hid (((Below.refl w.heap.size w).alloc (Nat.le_refl _) (.cells #[.nilIface, .int .i32 0] 31)).trans (hb.mono (by simp)))
  have VX := Var.new (sto w1 w.heap.size (.iface 184 (.pointer (some ⟨tb, 0, none⟩))) tl) (.iface 184 (.pointer (some ⟨tb, 0, none⟩))) tl
  rw [sto_size] at VX
  have HVX := Lib.hid VX
  have HT := Lib.hid (((⟨hz, r0, r1, r2, r3⟩ : Var w1 w.heap.size .nilIface 0).sto (.iface 184 (.pointer (some ⟨tb, 0, none⟩))) tl).below ((Below.refl _ _).alloc (Nat.le_refl _) (.cells #[(.iface 184 (.pointer (some ⟨tb, 0, none⟩))), .int .i32 tl] 31)))
  have HBX := Lib.hid ((sto_below HB1.out (Nat.le_refl _) (.iface 184 (.pointer (some ⟨tb, 0, none⟩))) tl).alloc (by rw [sto_size]; exact HB1.out.size) (.cells #[(.iface 184 (.pointer (some ⟨tb, 0, none⟩))), .int .i32 tl] 31))
  have hXs : ((sto w1 w.heap.size (.iface 184 (.pointer (some ⟨tb, 0, none⟩))) tl).alloc (.cells #[(.iface 184 (.pointer (some ⟨tb, 0, none⟩))), .int .i32 tl] 31)).heap.size = w1.heap.size + 1 := by simp [sto_size]
  have HXS := Lib.hid hXs
  clear hb VX hXs
  have q0 : ((0 : Int) == 0) = true := by decide
  have q1 : ((0 : Int) == 1) = false := by decide
  go_simp
  go_wp2_with fail
  generalize hX : (sto w1 w.heap.size (.iface 184 (.pointer (some ⟨tb, 0, none⟩))) tl).alloc (.cells #[(.iface 184 (.pointer (some ⟨tb, 0, none⟩))), .int .i32 tl] 31) = X at *
  unfold sto at hX
  rw [hX]
  clear hX r0 r1 r2 r3
  refine (dot8 _ 184 tb tl l name nl).mono ?_
  rintro e w4 ⟨b, rfl, hd, hbase, hb4⟩
  have HV4 := Lib.hid (HVX.out.below hb4)
  have hbe : b ≠ w1.heap.size := by have := HXS.out; omega
  have HD4 := Lib.hid (hd.of_block (sto_block w4 w1.heap.size (.iface 170 (.pointer (some ⟨b, 0, none⟩))) l hbe))
  have HVS := Lib.hid (HV4.out.sto (.iface 170 (.pointer (some ⟨b, 0, none⟩))) l)
  have HB4 := Lib.hid (HBX.out.trans (hb4.mono HBX.out.size))
  have HBS := Lib.hid (sto_below HB4.out HB1.out.size (.iface 170 (.pointer (some ⟨b, 0, none⟩))) l)
  obtain ⟨hz4, r0, r1, r2, r3⟩ := HV4.out
  clear hb4 hd hbase
  go_simp
  go_wp2_with fail
  generalize hY : sto w4 w1.heap.size (.iface 170 (.pointer (some ⟨b, 0, none⟩))) l = Y at *
  unfold sto at hY
  rw [hY]
  clear hY r0 r1 r2 r3
  refine (new7 _ true).mono ?_
  rintro e w5 ⟨PB, rfl, hp, hb5⟩
  have HV5 := Lib.hid (HVS.out.below hb5)
  have HD5 := Lib.hid (HD4.out.below hb5)
  have HB5 := Lib.hid (HBS.out.trans (hb5.mono HBS.out.size))
  have HP := Lib.hid hp
  clear hb5 hp
  obtain ⟨hz5, r0, r1, r2, r3⟩ := HV5.out
  go_simp
  go_wp2_with fail
  refine (ex10_dot_t184 _ PB b tb tl l nl name HN.out HP.out HD5.out).mono ?_
  rintro e w6 ⟨rfl, hb6⟩
  have HB6 := Lib.hid (HB5.out.trans (hb6.mono HB5.out.size))
  clear hb6 r0 r1 r2 r3
  go_simp
  go_wp2_with fail
  go_ret
  exact ⟨rfl, HB6.out.alloc HB6.out.size _⟩
set_option maxRecDepth 100000 in
set_option maxHeartbeats 8000000 in
theorem law52_dot_f174 (w : World) (name : ByteArray) (hn : name.size ≤ 65536) (nl il tl l : Int) :
    Calls Try.prog 4 #[.bool false, .int .u8 0, .bool true, .string name, .int .i32 nl, .int .i32 il, .int .i32 tl, .int .i32 l] w fun e w' => e = .returned (.bool true) ∧ Below w.heap.size w w' := by
  have hn2 : name.size ≤ 1048576 := by omega
  have H13 := Lib.hid (bytes13 w false true 0 name nl il tl l true (by simp; omega) (by unfold maxLen; omega))
  have HN := Lib.hid hn2
  clear hn2
  go_enter Try.func4, Try.ntmps4
  go_wp2_with (go_at_call 13; (with_reducible refine H13.out.mono ?_); rintro e w' ⟨rfl, rfl⟩)
  refine (super9 _ tl).mono ?_
  rintro e w1 ⟨tb, rfl, hb⟩
  have V1 := (Var.new w .nilIface 0).below hb
  obtain ⟨hz, r0, r1, r2, r3⟩ := V1
  have HB1 := Lib.hid (((Below.refl w.heap.size w).alloc (Nat.le_refl _) (.cells #[.nilIface, .int .i32 0] 31)).trans (hb.mono (by simp)))
  have VX := Var.new (sto w1 w.heap.size (.iface 174 (.pointer (some ⟨tb, 0, none⟩))) tl) (.iface 174 (.pointer (some ⟨tb, 0, none⟩))) tl
  rw [sto_size] at VX
  have HVX := Lib.hid VX
  have HT := Lib.hid (((⟨hz, r0, r1, r2, r3⟩ : Var w1 w.heap.size .nilIface 0).sto (.iface 174 (.pointer (some ⟨tb, 0, none⟩))) tl).below ((Below.refl _ _).alloc (Nat.le_refl _) (.cells #[(.iface 174 (.pointer (some ⟨tb, 0, none⟩))), .int .i32 tl] 31)))
  have HBX := Lib.hid ((sto_below HB1.out (Nat.le_refl _) (.iface 174 (.pointer (some ⟨tb, 0, none⟩))) tl).alloc (by rw [sto_size]; exact HB1.out.size) (.cells #[(.iface 174 (.pointer (some ⟨tb, 0, none⟩))), .int .i32 tl] 31))
  have hXs : ((sto w1 w.heap.size (.iface 174 (.pointer (some ⟨tb, 0, none⟩))) tl).alloc (.cells #[(.iface 174 (.pointer (some ⟨tb, 0, none⟩))), .int .i32 tl] 31)).heap.size = w1.heap.size + 1 := by simp [sto_size]
  have HXS := Lib.hid hXs
  clear hb VX hXs
  have q0 : ((0 : Int) == 0) = true := by decide
  have q1 : ((0 : Int) == 1) = false := by decide
  go_simp
  go_wp2_with fail
  generalize hX : (sto w1 w.heap.size (.iface 174 (.pointer (some ⟨tb, 0, none⟩))) tl).alloc (.cells #[(.iface 174 (.pointer (some ⟨tb, 0, none⟩))), .int .i32 tl] 31) = X at *
  unfold sto at hX
  rw [hX]
  clear hX r0 r1 r2 r3
  refine (dot8 _ 174 tb tl l name nl).mono ?_
  rintro e w4 ⟨b, rfl, hd, hbase, hb4⟩
  have HV4 := Lib.hid (HVX.out.below hb4)
  have hbe : b ≠ w1.heap.size := by have := HXS.out; omega
  have HD4 := Lib.hid (hd.of_block (sto_block w4 w1.heap.size (.iface 170 (.pointer (some ⟨b, 0, none⟩))) l hbe))
  have HVS := Lib.hid (HV4.out.sto (.iface 170 (.pointer (some ⟨b, 0, none⟩))) l)
  have HB4 := Lib.hid (HBX.out.trans (hb4.mono HBX.out.size))
  have HBS := Lib.hid (sto_below HB4.out HB1.out.size (.iface 170 (.pointer (some ⟨b, 0, none⟩))) l)
  obtain ⟨hz4, r0, r1, r2, r3⟩ := HV4.out
  clear hb4 hd hbase
  go_simp
  go_wp2_with fail
  generalize hY : sto w4 w1.heap.size (.iface 170 (.pointer (some ⟨b, 0, none⟩))) l = Y at *
  unfold sto at hY
  rw [hY]
  clear hY r0 r1 r2 r3
  refine (new7 _ false).mono ?_
  rintro e w5 ⟨PB, rfl, hp, hb5⟩
  have HV5 := Lib.hid (HVS.out.below hb5)
  have HD5 := Lib.hid (HD4.out.below hb5)
  have HB5 := Lib.hid (HBS.out.trans (hb5.mono HBS.out.size))
  have HP := Lib.hid hp
  clear hb5 hp
  obtain ⟨hz5, r0, r1, r2, r3⟩ := HV5.out
  go_simp
  go_wp2_with fail
  refine (ex10_dot_f174 _ PB b tb tl l nl name HN.out HP.out HD5.out).mono ?_
  rintro e w6 ⟨rfl, hb6⟩
  have HB6 := Lib.hid (HB5.out.trans (hb6.mono HB5.out.size))
  clear hb6 r0 r1 r2 r3
  go_simp
  go_wp2_with fail
  go_ret
  exact ⟨rfl, HB6.out.alloc HB6.out.size _⟩
set_option maxRecDepth 100000 in
set_option maxHeartbeats 8000000 in
theorem law52_dot_f184 (w : World) (name : ByteArray) (hn : name.size ≤ 65536) (nl il tl l : Int) :
    Calls Try.prog 4 #[.bool false, .int .u8 0, .bool false, .string name, .int .i32 nl, .int .i32 il, .int .i32 tl, .int .i32 l] w fun e w' => e = .returned (.bool true) ∧ Below w.heap.size w w' := by
  have hn2 : name.size ≤ 1048576 := by omega
  have H13 := Lib.hid (bytes13 w false false 0 name nl il tl l true (by simp; omega) (by unfold maxLen; omega))
  have HN := Lib.hid hn2
  clear hn2
  go_enter Try.func4, Try.ntmps4
  go_wp2_with (go_at_call 13; (with_reducible refine H13.out.mono ?_); rintro e w' ⟨rfl, rfl⟩)
  refine (ref15 _).mono ?_
  rintro e w0 ⟨rfl, hb0⟩
  go_simp
  go_wp2_with fail
  refine (ident14 _ tl 0 3).mono ?_
  rintro e w1 ⟨tb, rfl, hb1⟩
  have hb := hb0.trans (hb1.mono hb0.size)
  clear hb0 hb1
  have V1 := (Var.new w .nilIface 0).below hb
  obtain ⟨hz, r0, r1, r2, r3⟩ := V1
  have HB1 := Lib.hid (((Below.refl w.heap.size w).alloc (Nat.le_refl _) (.cells #[.nilIface, .int .i32 0] 31)).trans (hb.mono (by simp)))
  have VX := Var.new (sto w1 w.heap.size (.iface 184 (.pointer (some ⟨tb, 0, none⟩))) tl) (.iface 184 (.pointer (some ⟨tb, 0, none⟩))) tl
  rw [sto_size] at VX
  have HVX := Lib.hid VX
  have HT := Lib.hid (((⟨hz, r0, r1, r2, r3⟩ : Var w1 w.heap.size .nilIface 0).sto (.iface 184 (.pointer (some ⟨tb, 0, none⟩))) tl).below ((Below.refl _ _).alloc (Nat.le_refl _) (.cells #[(.iface 184 (.pointer (some ⟨tb, 0, none⟩))), .int .i32 tl] 31)))
  have HBX := Lib.hid ((sto_below HB1.out (Nat.le_refl _) (.iface 184 (.pointer (some ⟨tb, 0, none⟩))) tl).alloc (by rw [sto_size]; exact HB1.out.size) (.cells #[(.iface 184 (.pointer (some ⟨tb, 0, none⟩))), .int .i32 tl] 31))
  have hXs : ((sto w1 w.heap.size (.iface 184 (.pointer (some ⟨tb, 0, none⟩))) tl).alloc (.cells #[(.iface 184 (.pointer (some ⟨tb, 0, none⟩))), .int .i32 tl] 31)).heap.size = w1.heap.size + 1 := by simp [sto_size]
  have HXS := Lib.hid hXs
  clear hb VX hXs
  have q0 : ((0 : Int) == 0) = true := by decide
  have q1 : ((0 : Int) == 1) = false := by decide
  go_simp
  go_wp2_with fail
  generalize hX : (sto w1 w.heap.size (.iface 184 (.pointer (some ⟨tb, 0, none⟩))) tl).alloc (.cells #[(.iface 184 (.pointer (some ⟨tb, 0, none⟩))), .int .i32 tl] 31) = X at *
  unfold sto at hX
  rw [hX]
  clear hX r0 r1 r2 r3
  refine (dot8 _ 184 tb tl l name nl).mono ?_
  rintro e w4 ⟨b, rfl, hd, hbase, hb4⟩
  have HV4 := Lib.hid (HVX.out.below hb4)
  have hbe : b ≠ w1.heap.size := by have := HXS.out; omega
  have HD4 := Lib.hid (hd.of_block (sto_block w4 w1.heap.size (.iface 170 (.pointer (some ⟨b, 0, none⟩))) l hbe))
  have HVS := Lib.hid (HV4.out.sto (.iface 170 (.pointer (some ⟨b, 0, none⟩))) l)
  have HB4 := Lib.hid (HBX.out.trans (hb4.mono HBX.out.size))
  have HBS := Lib.hid (sto_below HB4.out HB1.out.size (.iface 170 (.pointer (some ⟨b, 0, none⟩))) l)
  obtain ⟨hz4, r0, r1, r2, r3⟩ := HV4.out
  clear hb4 hd hbase
  go_simp
  go_wp2_with fail
  generalize hY : sto w4 w1.heap.size (.iface 170 (.pointer (some ⟨b, 0, none⟩))) l = Y at *
  unfold sto at hY
  rw [hY]
  clear hY r0 r1 r2 r3
  refine (new7 _ false).mono ?_
  rintro e w5 ⟨PB, rfl, hp, hb5⟩
  have HV5 := Lib.hid (HVS.out.below hb5)
  have HD5 := Lib.hid (HD4.out.below hb5)
  have HB5 := Lib.hid (HBS.out.trans (hb5.mono HBS.out.size))
  have HP := Lib.hid hp
  clear hb5 hp
  obtain ⟨hz5, r0, r1, r2, r3⟩ := HV5.out
  go_simp
  go_wp2_with fail
  refine (ex10_dot_f184 _ PB b tb tl l nl name HN.out HP.out HD5.out).mono ?_
  rintro e w6 ⟨rfl, hb6⟩
  have HB6 := Lib.hid (HB5.out.trans (hb6.mono HB5.out.size))
  clear hb6 r0 r1 r2 r3
  go_simp
  go_wp2_with fail
  go_ret
  exact ⟨rfl, HB6.out.alloc HB6.out.size _⟩
set_option maxRecDepth 100000 in
set_option maxHeartbeats 8000000 in
theorem law52_idx_t174 (w : World) (name : ByteArray) (hn : name.size ≤ 65536) (nl il tl l : Int) :
    Calls Try.prog 4 #[.bool true, .int .u8 1, .bool true, .string name, .int .i32 nl, .int .i32 il, .int .i32 tl, .int .i32 l] w fun e w' => e = .returned (.bool true) ∧ Below w.heap.size w w' := by
  have hn2 : name.size ≤ 1048576 := by omega
  have H13 := Lib.hid (bytes13 w true true 1 name nl il tl l true (by simp; omega) (by unfold maxLen; omega))
  have HN := Lib.hid hn2
  clear hn2
  go_enter Try.func4, Try.ntmps4
  go_wp2_with (go_at_call 13; (with_reducible refine H13.out.mono ?_); rintro e w' ⟨rfl, rfl⟩)
  refine (super9 _ tl).mono ?_
  rintro e w1 ⟨tb, rfl, hb⟩
  have V1 := (Var.new w .nilIface 0).below hb
  obtain ⟨hz, r0, r1, r2, r3⟩ := V1
  have HB1 := Lib.hid (((Below.refl w.heap.size w).alloc (Nat.le_refl _) (.cells #[.nilIface, .int .i32 0] 31)).trans (hb.mono (by simp)))
  have VX := Var.new (sto w1 w.heap.size (.iface 174 (.pointer (some ⟨tb, 0, none⟩))) tl) (.iface 174 (.pointer (some ⟨tb, 0, none⟩))) tl
  rw [sto_size] at VX
  have HVX := Lib.hid VX
  have HT := Lib.hid (((⟨hz, r0, r1, r2, r3⟩ : Var w1 w.heap.size .nilIface 0).sto (.iface 174 (.pointer (some ⟨tb, 0, none⟩))) tl).below ((Below.refl _ _).alloc (Nat.le_refl _) (.cells #[(.iface 174 (.pointer (some ⟨tb, 0, none⟩))), .int .i32 tl] 31)))
  have HBX := Lib.hid ((sto_below HB1.out (Nat.le_refl _) (.iface 174 (.pointer (some ⟨tb, 0, none⟩))) tl).alloc (by rw [sto_size]; exact HB1.out.size) (.cells #[(.iface 174 (.pointer (some ⟨tb, 0, none⟩))), .int .i32 tl] 31))
  have hXs : ((sto w1 w.heap.size (.iface 174 (.pointer (some ⟨tb, 0, none⟩))) tl).alloc (.cells #[(.iface 174 (.pointer (some ⟨tb, 0, none⟩))), .int .i32 tl] 31)).heap.size = w1.heap.size + 1 := by simp [sto_size]
  have HXS := Lib.hid hXs
  clear hb VX hXs
  have q0 : ((1 : Int) == 0) = false := by decide
  have q1 : ((1 : Int) == 1) = true := by decide
  go_simp
  go_wp2_with fail
  generalize hX : (sto w1 w.heap.size (.iface 174 (.pointer (some ⟨tb, 0, none⟩))) tl).alloc (.cells #[(.iface 174 (.pointer (some ⟨tb, 0, none⟩))), .int .i32 tl] 31) = X at *
  unfold sto at hX
  rw [hX]
  clear hX r0 r1 r2 r3
  obtain ⟨tz, t0, t1, _, _⟩ := HT.out
  have hk0 := Bx.refl w1.heap.size X
  have hne : w.heap.size ≠ w1.heap.size := by omega
  have K4 : Hid (∀ w', Bx w1.heap.size X w' → w'.cell? ⟨w.heap.size, 0, none⟩ = some (.iface 174 (.pointer (some ⟨tb, 0, none⟩))) ∧ w'.cell? ⟨w.heap.size, 1, none⟩ = some (.int .i32 tl) ∧ Bx w1.heap.size X w') := Lib.hid fun w' h => ⟨(World.cell?_of_block (a := ⟨w.heap.size, 0, none⟩) (h.blk _ tz hne)).trans t0, (World.cell?_of_block (a := ⟨w.heap.size, 1, none⟩) (h.blk _ tz hne)).trans t1, h⟩
  have bt : ∀ {a c : World}, Below a.drew.heap.size a.drew c → Below a.heap.size a c := fun h => (Below.refl _ _).drew.trans h
  go_region_held3 (fun w' => w'.cell? ⟨w.heap.size, 0, none⟩ = some (.iface 174 (.pointer (some ⟨tb, 0, none⟩))) ∧ w'.cell? ⟨w.heap.size, 1, none⟩ = some (.int .i32 tl) ∧ Bx w1.heap.size X w')
    (first | (refine K4.out _ ?_; repeat (first | assumption | refine Bx.drew ?_ | refine Bx.alloc ?_ _ | refine Bx.set ?_ _ _)))
    (first
      | (go_at_call 17; (refine (str17 _ il name HN.out).mono ?_); rintro e w3 ⟨ib, rfl, hst, hb3⟩; have hb3' : Below X.heap.size X w3 := (by first | exact hb3 | exact bt hb3); have hx3 := hk0.below hb3'; have HST3 := Lib.hid hst; have hsb : X.heap.size ≤ X.heap.size := Nat.le_refl _; have HV3 := Lib.hid (HVX.out.below hb3'); have HB3 := Lib.hid (HBX.out.trans (hb3'.mono HBX.out.size)); have HZ3 := Lib.hid hb3'.size; clear hb3 hb3' hst)
      | (go_at_call 16; (refine (idx16 _ 174 tb tl l ib il).mono ?_); rintro e w4 ⟨b, rfl, hd, hbase, hb4⟩; have hb4' : Below w3.heap.size w3 w4 := (by first | exact hb4 | exact bt hb4); have hx4 := hx3.below hb4'; have hbs : w3.heap.size ≤ b := hbase; have HBB := Lib.hid hbs; have HST4 := Lib.hid (HST3.out.mono (Nat.le_refl _) (fun q _ hq => hb4'.block q hq)); have HD4 := Lib.hid hd; have HV4 := Lib.hid (HV3.out.below hb4'); have HB4 := Lib.hid (HB3.out.trans (hb4'.mono HB3.out.size)); obtain ⟨hz4, r0, r1, r2, r3⟩ := HV4.out; clear hb4 hb4' hd hbase hbs))
  have hbe : b ≠ w1.heap.size := by have := HXS.out; have := HZ3.out; have := HBB.out; omega
  have HDS := Lib.hid (HD4.out.of_block (sto_block w4 w1.heap.size (.iface 187 (.pointer (some ⟨b, 0, none⟩))) l hbe))
  have HVS := Lib.hid (HV4.out.sto (.iface 187 (.pointer (some ⟨b, 0, none⟩))) l)
  have HBS := Lib.hid (sto_below HB4.out HB1.out.size (.iface 187 (.pointer (some ⟨b, 0, none⟩))) l)
  clear t0 t1 hx3 hx4 hk0
  go_wp2_with fail
  generalize hY : sto w4 w1.heap.size (.iface 187 (.pointer (some ⟨b, 0, none⟩))) l = Y at *
  have HYB : Hid (∀ q, q ≠ w1.heap.size → Y.heap[q]? = w4.heap[q]?) := Lib.hid fun q hq => by rw [← hY]; exact sto_block w4 _ _ _ hq
  unfold sto at hY
  rw [hY]
  clear hY r0 r1 r2 r3
  refine (new7 _ true).mono ?_
  rintro e w5 ⟨PB, rfl, hp, hb5⟩
  have hb5' : Below Y.heap.size Y w5 := by first | exact hb5 | exact bt hb5
  have HV5 := Lib.hid (HVS.out.below hb5')
  have HD5 := Lib.hid (HDS.out.below hb5')
  have HB5 := Lib.hid (HBS.out.trans (hb5'.mono HBS.out.size))
  have HB5' := Lib.hid hb5'
  have HP := Lib.hid hp
  have HSTY5 := Lib.hid ((HST4.out.keep (w' := Y) (fun q hq _ => HYB.out q (by have := HXS.out; have : X.heap.size ≤ q := hq; omega))).below HB5'.out)
  clear hb5 hb5' hp
  obtain ⟨hz5, r0, r1, r2, r3⟩ := HV5.out
  go_simp
  go_wp2_with fail
  refine (ex10_idx_t174 _ PB b tb ib tl l il HP.out HD5.out).mono ?_
  rintro e w6 ⟨rfl, hb6⟩
  obtain ⟨b2, hb2⟩ : ∃ b2, b2 = ib := ⟨_, rfl⟩
  subst hb2
  have HST := Lib.hid (((HSTY5.out).below hb6).below ((Below.refl _ _).alloc (Nat.le_refl _) (.cells #[.iface 178 (.pointer (some ⟨b2, 0, none⟩)), .int .i32 il] 31)))
  have HB6 := Lib.hid (HB5.out.trans (hb6.mono HB5.out.size))
  have HBA := Lib.hid (HB6.out.alloc HB6.out.size (.cells #[.iface 178 (.pointer (some ⟨b2, 0, none⟩)), .int .i32 il] 31))
  have HVA := Lib.hid (Var.new w6 (.iface 178 (.pointer (some ⟨b2, 0, none⟩))) il)
  clear HSTY5 hb6 r0 r1 r2 r3
  go_simp
  go_wp2_with fail
  generalize w6.alloc (.cells #[.iface 178 (.pointer (some ⟨b2, 0, none⟩)), .int .i32 il] 31) = wA at *
  refine (read11 wA b2 il _ HST.out).mono ?_
  rintro e w7 ⟨a7, c7, rfl, hrow, hb7⟩
  have HR7 := Lib.hid hrow
  have HV7 := Lib.hid (HVA.out.below hb7)
  have HB7 := Lib.hid (HBA.out.trans (hb7.mono HBA.out.size))
  obtain ⟨_, s0, s1, _, _⟩ := HV7.out
  have qe : (il == il) = true := by simp
  clear hrow hb7
  go_simp
  go_wp2_with fail
  refine (zz _ name HN.out).mono ?_
  rintro e w8 ⟨⟨v8, rfl, hv8⟩, hb8⟩
  obtain ⟨a8, c8, rfl, hr8⟩ := hv8.keep (w' := w8) (fun _ _ _ => rfl)
  have HR8 := Lib.hid hr8
  have HR78 := Lib.hid (HR7.out.below hb8)
  have HB8 := Lib.hid (HB7.out.trans (hb8.mono HB7.out.size))
  clear hv8 hr8 hb8
  go_simp
  go_wp2_with fail
  refine (eq18 w8 a7 a8 c7 c8 (us name name.size 0) (by have := us_len name; omega) HR78.out HR8.out).mono ?_
  rintro e w9 ⟨rfl, hb9⟩
  have HB9 := Lib.hid (HB8.out.trans (hb9.mono HB8.out.size))
  clear hb9
  go_simp
  go_wp2_with fail
  go_ret
  exact ⟨rfl, HB9.out⟩
set_option maxRecDepth 100000 in
set_option maxHeartbeats 8000000 in
theorem law52_idx_t184 (w : World) (name : ByteArray) (hn : name.size ≤ 65536) (nl il tl l : Int) :
    Calls Try.prog 4 #[.bool true, .int .u8 1, .bool false, .string name, .int .i32 nl, .int .i32 il, .int .i32 tl, .int .i32 l] w fun e w' => e = .returned (.bool true) ∧ Below w.heap.size w w' := by
  have hn2 : name.size ≤ 1048576 := by omega
  have H13 := Lib.hid (bytes13 w true false 1 name nl il tl l true (by simp; omega) (by unfold maxLen; omega))
  have HN := Lib.hid hn2
  clear hn2
  go_enter Try.func4, Try.ntmps4
  go_wp2_with (go_at_call 13; (with_reducible refine H13.out.mono ?_); rintro e w' ⟨rfl, rfl⟩)
  refine (ref15 _).mono ?_
  rintro e w0 ⟨rfl, hb0⟩
  go_simp
  go_wp2_with fail
  refine (ident14 _ tl 0 3).mono ?_
  rintro e w1 ⟨tb, rfl, hb1⟩
  have hb := hb0.trans (hb1.mono hb0.size)
  clear hb0 hb1
  have V1 := (Var.new w .nilIface 0).below hb
  obtain ⟨hz, r0, r1, r2, r3⟩ := V1
  have HB1 := Lib.hid (((Below.refl w.heap.size w).alloc (Nat.le_refl _) (.cells #[.nilIface, .int .i32 0] 31)).trans (hb.mono (by simp)))
  have VX := Var.new (sto w1 w.heap.size (.iface 184 (.pointer (some ⟨tb, 0, none⟩))) tl) (.iface 184 (.pointer (some ⟨tb, 0, none⟩))) tl
  rw [sto_size] at VX
  have HVX := Lib.hid VX
  have HT := Lib.hid (((⟨hz, r0, r1, r2, r3⟩ : Var w1 w.heap.size .nilIface 0).sto (.iface 184 (.pointer (some ⟨tb, 0, none⟩))) tl).below ((Below.refl _ _).alloc (Nat.le_refl _) (.cells #[(.iface 184 (.pointer (some ⟨tb, 0, none⟩))), .int .i32 tl] 31)))
  have HBX := Lib.hid ((sto_below HB1.out (Nat.le_refl _) (.iface 184 (.pointer (some ⟨tb, 0, none⟩))) tl).alloc (by rw [sto_size]; exact HB1.out.size) (.cells #[(.iface 184 (.pointer (some ⟨tb, 0, none⟩))), .int .i32 tl] 31))
  have hXs : ((sto w1 w.heap.size (.iface 184 (.pointer (some ⟨tb, 0, none⟩))) tl).alloc (.cells #[(.iface 184 (.pointer (some ⟨tb, 0, none⟩))), .int .i32 tl] 31)).heap.size = w1.heap.size + 1 := by simp [sto_size]
  have HXS := Lib.hid hXs
  clear hb VX hXs
  have q0 : ((1 : Int) == 0) = false := by decide
  have q1 : ((1 : Int) == 1) = true := by decide
  go_simp
  go_wp2_with fail
  generalize hX : (sto w1 w.heap.size (.iface 184 (.pointer (some ⟨tb, 0, none⟩))) tl).alloc (.cells #[(.iface 184 (.pointer (some ⟨tb, 0, none⟩))), .int .i32 tl] 31) = X at *
  unfold sto at hX
  rw [hX]
  clear hX r0 r1 r2 r3
  obtain ⟨tz, t0, t1, _, _⟩ := HT.out
  have hk0 := Bx.refl w1.heap.size X
  have hne : w.heap.size ≠ w1.heap.size := by omega
  have K4 : Hid (∀ w', Bx w1.heap.size X w' → w'.cell? ⟨w.heap.size, 0, none⟩ = some (.iface 184 (.pointer (some ⟨tb, 0, none⟩))) ∧ w'.cell? ⟨w.heap.size, 1, none⟩ = some (.int .i32 tl) ∧ Bx w1.heap.size X w') := Lib.hid fun w' h => ⟨(World.cell?_of_block (a := ⟨w.heap.size, 0, none⟩) (h.blk _ tz hne)).trans t0, (World.cell?_of_block (a := ⟨w.heap.size, 1, none⟩) (h.blk _ tz hne)).trans t1, h⟩
  have bt : ∀ {a c : World}, Below a.drew.heap.size a.drew c → Below a.heap.size a c := fun h => (Below.refl _ _).drew.trans h
  go_region_held3 (fun w' => w'.cell? ⟨w.heap.size, 0, none⟩ = some (.iface 184 (.pointer (some ⟨tb, 0, none⟩))) ∧ w'.cell? ⟨w.heap.size, 1, none⟩ = some (.int .i32 tl) ∧ Bx w1.heap.size X w')
    (first | (refine K4.out _ ?_; repeat (first | assumption | refine Bx.drew ?_ | refine Bx.alloc ?_ _ | refine Bx.set ?_ _ _)))
    (first
      | (go_at_call 17; (refine (str17 _ il name HN.out).mono ?_); rintro e w3 ⟨ib, rfl, hst, hb3⟩; have hb3' : Below X.heap.size X w3 := (by first | exact hb3 | exact bt hb3); have hx3 := hk0.below hb3'; have HST3 := Lib.hid hst; have hsb : X.heap.size ≤ X.heap.size := Nat.le_refl _; have HV3 := Lib.hid (HVX.out.below hb3'); have HB3 := Lib.hid (HBX.out.trans (hb3'.mono HBX.out.size)); have HZ3 := Lib.hid hb3'.size; clear hb3 hb3' hst)
      | (go_at_call 16; (refine (idx16 _ 184 tb tl l ib il).mono ?_); rintro e w4 ⟨b, rfl, hd, hbase, hb4⟩; have hb4' : Below w3.heap.size w3 w4 := (by first | exact hb4 | exact bt hb4); have hx4 := hx3.below hb4'; have hbs : w3.heap.size ≤ b := hbase; have HBB := Lib.hid hbs; have HST4 := Lib.hid (HST3.out.mono (Nat.le_refl _) (fun q _ hq => hb4'.block q hq)); have HD4 := Lib.hid hd; have HV4 := Lib.hid (HV3.out.below hb4'); have HB4 := Lib.hid (HB3.out.trans (hb4'.mono HB3.out.size)); obtain ⟨hz4, r0, r1, r2, r3⟩ := HV4.out; clear hb4 hb4' hd hbase hbs))
  have hbe : b ≠ w1.heap.size := by have := HXS.out; have := HZ3.out; have := HBB.out; omega
  have HDS := Lib.hid (HD4.out.of_block (sto_block w4 w1.heap.size (.iface 187 (.pointer (some ⟨b, 0, none⟩))) l hbe))
  have HVS := Lib.hid (HV4.out.sto (.iface 187 (.pointer (some ⟨b, 0, none⟩))) l)
  have HBS := Lib.hid (sto_below HB4.out HB1.out.size (.iface 187 (.pointer (some ⟨b, 0, none⟩))) l)
  clear t0 t1 hx3 hx4 hk0
  go_wp2_with fail
  generalize hY : sto w4 w1.heap.size (.iface 187 (.pointer (some ⟨b, 0, none⟩))) l = Y at *
  have HYB : Hid (∀ q, q ≠ w1.heap.size → Y.heap[q]? = w4.heap[q]?) := Lib.hid fun q hq => by rw [← hY]; exact sto_block w4 _ _ _ hq
  unfold sto at hY
  rw [hY]
  clear hY r0 r1 r2 r3
  refine (new7 _ true).mono ?_
  rintro e w5 ⟨PB, rfl, hp, hb5⟩
  have hb5' : Below Y.heap.size Y w5 := by first | exact hb5 | exact bt hb5
  have HV5 := Lib.hid (HVS.out.below hb5')
  have HD5 := Lib.hid (HDS.out.below hb5')
  have HB5 := Lib.hid (HBS.out.trans (hb5'.mono HBS.out.size))
  have HB5' := Lib.hid hb5'
  have HP := Lib.hid hp
  have HSTY5 := Lib.hid ((HST4.out.keep (w' := Y) (fun q hq _ => HYB.out q (by have := HXS.out; have : X.heap.size ≤ q := hq; omega))).below HB5'.out)
  clear hb5 hb5' hp
  obtain ⟨hz5, r0, r1, r2, r3⟩ := HV5.out
  go_simp
  go_wp2_with fail
  refine (ex10_idx_t184 _ PB b tb ib tl l il HP.out HD5.out).mono ?_
  rintro e w6 ⟨rfl, hb6⟩
  have HB6 := Lib.hid (HB5.out.trans (hb6.mono HB5.out.size))
  clear hb6 r0 r1 r2 r3
  go_simp
  go_wp2_with fail
  go_ret
  exact ⟨rfl, HB6.out.alloc HB6.out.size _⟩
set_option maxRecDepth 100000 in
set_option maxHeartbeats 8000000 in
theorem law52_idx_f174 (w : World) (name : ByteArray) (hn : name.size ≤ 65536) (nl il tl l : Int) :
    Calls Try.prog 4 #[.bool false, .int .u8 1, .bool true, .string name, .int .i32 nl, .int .i32 il, .int .i32 tl, .int .i32 l] w fun e w' => e = .returned (.bool true) ∧ Below w.heap.size w w' := by
  have hn2 : name.size ≤ 1048576 := by omega
  have H13 := Lib.hid (bytes13 w false true 1 name nl il tl l true (by simp; omega) (by unfold maxLen; omega))
  have HN := Lib.hid hn2
  clear hn2
  go_enter Try.func4, Try.ntmps4
  go_wp2_with (go_at_call 13; (with_reducible refine H13.out.mono ?_); rintro e w' ⟨rfl, rfl⟩)
  refine (super9 _ tl).mono ?_
  rintro e w1 ⟨tb, rfl, hb⟩
  have V1 := (Var.new w .nilIface 0).below hb
  obtain ⟨hz, r0, r1, r2, r3⟩ := V1
  have HB1 := Lib.hid (((Below.refl w.heap.size w).alloc (Nat.le_refl _) (.cells #[.nilIface, .int .i32 0] 31)).trans (hb.mono (by simp)))
  have VX := Var.new (sto w1 w.heap.size (.iface 174 (.pointer (some ⟨tb, 0, none⟩))) tl) (.iface 174 (.pointer (some ⟨tb, 0, none⟩))) tl
  rw [sto_size] at VX
  have HVX := Lib.hid VX
  have HT := Lib.hid (((⟨hz, r0, r1, r2, r3⟩ : Var w1 w.heap.size .nilIface 0).sto (.iface 174 (.pointer (some ⟨tb, 0, none⟩))) tl).below ((Below.refl _ _).alloc (Nat.le_refl _) (.cells #[(.iface 174 (.pointer (some ⟨tb, 0, none⟩))), .int .i32 tl] 31)))
  have HBX := Lib.hid ((sto_below HB1.out (Nat.le_refl _) (.iface 174 (.pointer (some ⟨tb, 0, none⟩))) tl).alloc (by rw [sto_size]; exact HB1.out.size) (.cells #[(.iface 174 (.pointer (some ⟨tb, 0, none⟩))), .int .i32 tl] 31))
  have hXs : ((sto w1 w.heap.size (.iface 174 (.pointer (some ⟨tb, 0, none⟩))) tl).alloc (.cells #[(.iface 174 (.pointer (some ⟨tb, 0, none⟩))), .int .i32 tl] 31)).heap.size = w1.heap.size + 1 := by simp [sto_size]
  have HXS := Lib.hid hXs
  clear hb VX hXs
  have q0 : ((1 : Int) == 0) = false := by decide
  have q1 : ((1 : Int) == 1) = true := by decide
  go_simp
  go_wp2_with fail
  generalize hX : (sto w1 w.heap.size (.iface 174 (.pointer (some ⟨tb, 0, none⟩))) tl).alloc (.cells #[(.iface 174 (.pointer (some ⟨tb, 0, none⟩))), .int .i32 tl] 31) = X at *
  unfold sto at hX
  rw [hX]
  clear hX r0 r1 r2 r3
  obtain ⟨tz, t0, t1, _, _⟩ := HT.out
  have hk0 := Bx.refl w1.heap.size X
  have hne : w.heap.size ≠ w1.heap.size := by omega
  have K4 : Hid (∀ w', Bx w1.heap.size X w' → w'.cell? ⟨w.heap.size, 0, none⟩ = some (.iface 174 (.pointer (some ⟨tb, 0, none⟩))) ∧ w'.cell? ⟨w.heap.size, 1, none⟩ = some (.int .i32 tl) ∧ Bx w1.heap.size X w') := Lib.hid fun w' h => ⟨(World.cell?_of_block (a := ⟨w.heap.size, 0, none⟩) (h.blk _ tz hne)).trans t0, (World.cell?_of_block (a := ⟨w.heap.size, 1, none⟩) (h.blk _ tz hne)).trans t1, h⟩
  have bt : ∀ {a c : World}, Below a.drew.heap.size a.drew c → Below a.heap.size a c := fun h => (Below.refl _ _).drew.trans h
  go_region_held3 (fun w' => w'.cell? ⟨w.heap.size, 0, none⟩ = some (.iface 174 (.pointer (some ⟨tb, 0, none⟩))) ∧ w'.cell? ⟨w.heap.size, 1, none⟩ = some (.int .i32 tl) ∧ Bx w1.heap.size X w')
    (first | (refine K4.out _ ?_; repeat (first | assumption | refine Bx.drew ?_ | refine Bx.alloc ?_ _ | refine Bx.set ?_ _ _)))
    (first
      | (go_at_call 17; (refine (str17 _ il name HN.out).mono ?_); rintro e w3 ⟨ib, rfl, hst, hb3⟩; have hb3' : Below X.heap.size X w3 := (by first | exact hb3 | exact bt hb3); have hx3 := hk0.below hb3'; have HST3 := Lib.hid hst; have hsb : X.heap.size ≤ X.heap.size := Nat.le_refl _; have HV3 := Lib.hid (HVX.out.below hb3'); have HB3 := Lib.hid (HBX.out.trans (hb3'.mono HBX.out.size)); have HZ3 := Lib.hid hb3'.size; clear hb3 hb3' hst)
      | (go_at_call 16; (refine (idx16 _ 174 tb tl l ib il).mono ?_); rintro e w4 ⟨b, rfl, hd, hbase, hb4⟩; have hb4' : Below w3.heap.size w3 w4 := (by first | exact hb4 | exact bt hb4); have hx4 := hx3.below hb4'; have hbs : w3.heap.size ≤ b := hbase; have HBB := Lib.hid hbs; have HST4 := Lib.hid (HST3.out.mono (Nat.le_refl _) (fun q _ hq => hb4'.block q hq)); have HD4 := Lib.hid hd; have HV4 := Lib.hid (HV3.out.below hb4'); have HB4 := Lib.hid (HB3.out.trans (hb4'.mono HB3.out.size)); obtain ⟨hz4, r0, r1, r2, r3⟩ := HV4.out; clear hb4 hb4' hd hbase hbs))
  have hbe : b ≠ w1.heap.size := by have := HXS.out; have := HZ3.out; have := HBB.out; omega
  have HDS := Lib.hid (HD4.out.of_block (sto_block w4 w1.heap.size (.iface 187 (.pointer (some ⟨b, 0, none⟩))) l hbe))
  have HVS := Lib.hid (HV4.out.sto (.iface 187 (.pointer (some ⟨b, 0, none⟩))) l)
  have HBS := Lib.hid (sto_below HB4.out HB1.out.size (.iface 187 (.pointer (some ⟨b, 0, none⟩))) l)
  clear t0 t1 hx3 hx4 hk0
  go_wp2_with fail
  generalize hY : sto w4 w1.heap.size (.iface 187 (.pointer (some ⟨b, 0, none⟩))) l = Y at *
  have HYB : Hid (∀ q, q ≠ w1.heap.size → Y.heap[q]? = w4.heap[q]?) := Lib.hid fun q hq => by rw [← hY]; exact sto_block w4 _ _ _ hq
  unfold sto at hY
  rw [hY]
  clear hY r0 r1 r2 r3
  refine (new7 _ false).mono ?_
  rintro e w5 ⟨PB, rfl, hp, hb5⟩
  have hb5' : Below Y.heap.size Y w5 := by first | exact hb5 | exact bt hb5
  have HV5 := Lib.hid (HVS.out.below hb5')
  have HD5 := Lib.hid (HDS.out.below hb5')
  have HB5 := Lib.hid (HBS.out.trans (hb5'.mono HBS.out.size))
  have HB5' := Lib.hid hb5'
  have HP := Lib.hid hp
  have HSTY5 := Lib.hid ((HST4.out.keep (w' := Y) (fun q hq _ => HYB.out q (by have := HXS.out; have : X.heap.size ≤ q := hq; omega))).below HB5'.out)
  clear hb5 hb5' hp
  obtain ⟨hz5, r0, r1, r2, r3⟩ := HV5.out
  go_simp
  go_wp2_with fail
  refine (ex10_idx_f174 _ PB b tb ib tl l il HP.out HD5.out).mono ?_
  rintro e w6 ⟨rfl, hb6⟩
  have HB6 := Lib.hid (HB5.out.trans (hb6.mono HB5.out.size))
  clear hb6 r0 r1 r2 r3
  go_simp
  go_wp2_with fail
  go_ret
  exact ⟨rfl, HB6.out.alloc HB6.out.size _⟩
set_option maxRecDepth 100000 in
set_option maxHeartbeats 8000000 in
theorem law52_idx_f184 (w : World) (name : ByteArray) (hn : name.size ≤ 65536) (nl il tl l : Int) :
    Calls Try.prog 4 #[.bool false, .int .u8 1, .bool false, .string name, .int .i32 nl, .int .i32 il, .int .i32 tl, .int .i32 l] w fun e w' => e = .returned (.bool true) ∧ Below w.heap.size w w' := by
  have hn2 : name.size ≤ 1048576 := by omega
  have H13 := Lib.hid (bytes13 w false false 1 name nl il tl l true (by simp; omega) (by unfold maxLen; omega))
  have HN := Lib.hid hn2
  clear hn2
  go_enter Try.func4, Try.ntmps4
  go_wp2_with (go_at_call 13; (with_reducible refine H13.out.mono ?_); rintro e w' ⟨rfl, rfl⟩)
  refine (ref15 _).mono ?_
  rintro e w0 ⟨rfl, hb0⟩
  go_simp
  go_wp2_with fail
  refine (ident14 _ tl 0 3).mono ?_
  rintro e w1 ⟨tb, rfl, hb1⟩
  have hb := hb0.trans (hb1.mono hb0.size)
  clear hb0 hb1
  have V1 := (Var.new w .nilIface 0).below hb
  obtain ⟨hz, r0, r1, r2, r3⟩ := V1
  have HB1 := Lib.hid (((Below.refl w.heap.size w).alloc (Nat.le_refl _) (.cells #[.nilIface, .int .i32 0] 31)).trans (hb.mono (by simp)))
  have VX := Var.new (sto w1 w.heap.size (.iface 184 (.pointer (some ⟨tb, 0, none⟩))) tl) (.iface 184 (.pointer (some ⟨tb, 0, none⟩))) tl
  rw [sto_size] at VX
  have HVX := Lib.hid VX
  have HT := Lib.hid (((⟨hz, r0, r1, r2, r3⟩ : Var w1 w.heap.size .nilIface 0).sto (.iface 184 (.pointer (some ⟨tb, 0, none⟩))) tl).below ((Below.refl _ _).alloc (Nat.le_refl _) (.cells #[(.iface 184 (.pointer (some ⟨tb, 0, none⟩))), .int .i32 tl] 31)))
  have HBX := Lib.hid ((sto_below HB1.out (Nat.le_refl _) (.iface 184 (.pointer (some ⟨tb, 0, none⟩))) tl).alloc (by rw [sto_size]; exact HB1.out.size) (.cells #[(.iface 184 (.pointer (some ⟨tb, 0, none⟩))), .int .i32 tl] 31))
  have hXs : ((sto w1 w.heap.size (.iface 184 (.pointer (some ⟨tb, 0, none⟩))) tl).alloc (.cells #[(.iface 184 (.pointer (some ⟨tb, 0, none⟩))), .int .i32 tl] 31)).heap.size = w1.heap.size + 1 := by simp [sto_size]
  have HXS := Lib.hid hXs
  clear hb VX hXs
  have q0 : ((1 : Int) == 0) = false := by decide
  have q1 : ((1 : Int) == 1) = true := by decide
  go_simp
  go_wp2_with fail
  generalize hX : (sto w1 w.heap.size (.iface 184 (.pointer (some ⟨tb, 0, none⟩))) tl).alloc (.cells #[(.iface 184 (.pointer (some ⟨tb, 0, none⟩))), .int .i32 tl] 31) = X at *
  unfold sto at hX
  rw [hX]
  clear hX r0 r1 r2 r3
  obtain ⟨tz, t0, t1, _, _⟩ := HT.out
  have hk0 := Bx.refl w1.heap.size X
  have hne : w.heap.size ≠ w1.heap.size := by omega
  have K4 : Hid (∀ w', Bx w1.heap.size X w' → w'.cell? ⟨w.heap.size, 0, none⟩ = some (.iface 184 (.pointer (some ⟨tb, 0, none⟩))) ∧ w'.cell? ⟨w.heap.size, 1, none⟩ = some (.int .i32 tl) ∧ Bx w1.heap.size X w') := Lib.hid fun w' h => ⟨(World.cell?_of_block (a := ⟨w.heap.size, 0, none⟩) (h.blk _ tz hne)).trans t0, (World.cell?_of_block (a := ⟨w.heap.size, 1, none⟩) (h.blk _ tz hne)).trans t1, h⟩
  have bt : ∀ {a c : World}, Below a.drew.heap.size a.drew c → Below a.heap.size a c := fun h => (Below.refl _ _).drew.trans h
  go_region_held3 (fun w' => w'.cell? ⟨w.heap.size, 0, none⟩ = some (.iface 184 (.pointer (some ⟨tb, 0, none⟩))) ∧ w'.cell? ⟨w.heap.size, 1, none⟩ = some (.int .i32 tl) ∧ Bx w1.heap.size X w')
    (first | (refine K4.out _ ?_; repeat (first | assumption | refine Bx.drew ?_ | refine Bx.alloc ?_ _ | refine Bx.set ?_ _ _)))
    (first
      | (go_at_call 17; (refine (str17 _ il name HN.out).mono ?_); rintro e w3 ⟨ib, rfl, hst, hb3⟩; have hb3' : Below X.heap.size X w3 := (by first | exact hb3 | exact bt hb3); have hx3 := hk0.below hb3'; have HST3 := Lib.hid hst; have hsb : X.heap.size ≤ X.heap.size := Nat.le_refl _; have HV3 := Lib.hid (HVX.out.below hb3'); have HB3 := Lib.hid (HBX.out.trans (hb3'.mono HBX.out.size)); have HZ3 := Lib.hid hb3'.size; clear hb3 hb3' hst)
      | (go_at_call 16; (refine (idx16 _ 184 tb tl l ib il).mono ?_); rintro e w4 ⟨b, rfl, hd, hbase, hb4⟩; have hb4' : Below w3.heap.size w3 w4 := (by first | exact hb4 | exact bt hb4); have hx4 := hx3.below hb4'; have hbs : w3.heap.size ≤ b := hbase; have HBB := Lib.hid hbs; have HST4 := Lib.hid (HST3.out.mono (Nat.le_refl _) (fun q _ hq => hb4'.block q hq)); have HD4 := Lib.hid hd; have HV4 := Lib.hid (HV3.out.below hb4'); have HB4 := Lib.hid (HB3.out.trans (hb4'.mono HB3.out.size)); obtain ⟨hz4, r0, r1, r2, r3⟩ := HV4.out; clear hb4 hb4' hd hbase hbs))
  have hbe : b ≠ w1.heap.size := by have := HXS.out; have := HZ3.out; have := HBB.out; omega
  have HDS := Lib.hid (HD4.out.of_block (sto_block w4 w1.heap.size (.iface 187 (.pointer (some ⟨b, 0, none⟩))) l hbe))
  have HVS := Lib.hid (HV4.out.sto (.iface 187 (.pointer (some ⟨b, 0, none⟩))) l)
  have HBS := Lib.hid (sto_below HB4.out HB1.out.size (.iface 187 (.pointer (some ⟨b, 0, none⟩))) l)
  clear t0 t1 hx3 hx4 hk0
  go_wp2_with fail
  generalize hY : sto w4 w1.heap.size (.iface 187 (.pointer (some ⟨b, 0, none⟩))) l = Y at *
  have HYB : Hid (∀ q, q ≠ w1.heap.size → Y.heap[q]? = w4.heap[q]?) := Lib.hid fun q hq => by rw [← hY]; exact sto_block w4 _ _ _ hq
  unfold sto at hY
  rw [hY]
  clear hY r0 r1 r2 r3
  refine (new7 _ false).mono ?_
  rintro e w5 ⟨PB, rfl, hp, hb5⟩
  have hb5' : Below Y.heap.size Y w5 := by first | exact hb5 | exact bt hb5
  have HV5 := Lib.hid (HVS.out.below hb5')
  have HD5 := Lib.hid (HDS.out.below hb5')
  have HB5 := Lib.hid (HBS.out.trans (hb5'.mono HBS.out.size))
  have HB5' := Lib.hid hb5'
  have HP := Lib.hid hp
  have HSTY5 := Lib.hid ((HST4.out.keep (w' := Y) (fun q hq _ => HYB.out q (by have := HXS.out; have : X.heap.size ≤ q := hq; omega))).below HB5'.out)
  clear hb5 hb5' hp
  obtain ⟨hz5, r0, r1, r2, r3⟩ := HV5.out
  go_simp
  go_wp2_with fail
  refine (ex10_idx_f184 _ PB b tb ib tl l il HP.out HD5.out).mono ?_
  rintro e w6 ⟨rfl, hb6⟩
  have HB6 := Lib.hid (HB5.out.trans (hb6.mono HB5.out.size))
  clear hb6 r0 r1 r2 r3
  go_simp
  go_wp2_with fail
  go_ret
  exact ⟨rfl, HB6.out.alloc HB6.out.size _⟩
set_option maxRecDepth 100000 in
set_option maxHeartbeats 4000000 in
theorem law52 (w : World) (lo : Bool) (f : Int) (su : Bool) (name : ByteArray) (nl il tl l : Int) (hf : 0 ≤ f) (hm : name.size ≤ maxLen) :
    Calls Try.prog 4 #[.bool lo, .int .u8 f, .bool su, .string name, .int .i32 nl, .int .i32 il, .int .i32 tl, .int .i32 l] w fun e w' => e = .returned (.bool true) ∧ Below w.heap.size w w' := by
  by_cases h0 : ¬ (name.size ≤ 1048576)
  · have H13 := Lib.hid (bytes13 w lo su f name nl il tl l false (by simpa using h0) hm)
    clear h0 hm
    go_enter Try.func4, Try.ntmps4
    go_wp2_with (go_at_call 13; (with_reducible refine H13.out.mono ?_); rintro e w' ⟨rfl, rfl⟩)
    go_ret
    exact ⟨rfl, Below.refl _ _⟩
  have H13 := Lib.hid (bytes13 w lo su f name nl il tl l true (by simp; omega) hm)
  clear hm
  by_cases h1 : 65536 < name.size
  · go_enter Try.func4, Try.ntmps4
    go_wp2_with (go_at_call 13; (with_reducible refine H13.out.mono ?_); rintro e w' ⟨rfl, rfl⟩)
    go_ret
    exact ⟨rfl, Below.refl _ _⟩
  by_cases h2 : 2 < f
  · have h1' : name.size ≤ 65536 := by omega
    clear h0 h1
    go_enter Try.func4, Try.ntmps4
    go_wp2_with (go_at_call 13; (with_reducible refine H13.out.mono ?_); rintro e w' ⟨rfl, rfl⟩)
    go_ret
    exact ⟨rfl, Below.refl _ _⟩
  have hn : name.size ≤ 65536 := by omega
  have hc : f = 0 ∨ f = 1 ∨ f = 2 := by omega
  clear H13 h0 h1 h2 hf
  rcases hc with rfl | rfl | rfl
  · cases lo <;> cases su
    · exact law52_dot_f184 w name hn nl il tl l
    · exact law52_dot_f174 w name hn nl il tl l
    · exact law52_dot_t184 w name hn nl il tl l
    · exact law52_dot_t174 w name hn nl il tl l
  · cases lo <;> cases su
    · exact law52_idx_f184 w name hn nl il tl l
    · exact law52_idx_f174 w name hn nl il tl l
    · exact law52_idx_t184 w name hn nl il tl l
    · exact law52_idx_t174 w name hn nl il tl l
  · cases lo <;> cases su
    · exact law52_bare_f184 w name hn nl il tl l
    · exact law52_bare_f174 w name hn nl il tl l
    · exact law52_bare_t184 w name hn nl il tl l
    · exact law52_bare_t174 w name hn nl il tl l
end Go.Proofs.Ytjhmdagdmclknaa.ut
