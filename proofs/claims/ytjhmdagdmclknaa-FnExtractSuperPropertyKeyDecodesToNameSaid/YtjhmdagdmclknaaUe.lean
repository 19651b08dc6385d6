/-
  extractSuperProperty walked.
-/
import Derived.Test.YtjhmdagdmclknaaUd
namespace Go.Proofs.Ytjhmdagdmclknaa.ut
open Go.ChangeShapes Go.WideShapes Go.ChangeAt Go.RowKit Go.Deep Go.Proofs.Ytjhmdagdmclknaa.u8
set_option linter.unusedVariables false
set_option linter.unusedSimpArgs false

/-- Is a property access lowered? -/
def SlP (v : Bool) (w : World) (e : Ending) (w' : World) : Prop := e = .returned (.bool v) ∧ Below w.heap.size w w'
set_option maxRecDepth 100000 in
set_option maxHeartbeats 1000000 in
theorem sl22_no (w : World) (PB T b : Nat) (l : Int) (hp : w.cell? ⟨PB, 338, none⟩ = some (.bool false)) : Calls Try.prog 22 #[.pointer (some ⟨PB, 0, none⟩), .agg #[.iface T (.pointer (some ⟨b, 0, none⟩)), .int .i32 l]] w (SlP false w) := by
  have hb := block_lt_of_cell hp
  simp only at hb
  have hne : PB ≠ w.heap.size := by omega
  go_enter Try.func22, Try.ntmps22
  go_wp2_with fail
  go_ret
  exact ⟨rfl, (Below.refl _ _).alloc (Nat.le_refl _) _⟩
set_option maxRecDepth 100000 in
set_option maxHeartbeats 1000000 in
theorem sl22 (w : World) (PB T b : Nat) (l : Int) (hT : T = 174 ∨ T = 184) (hp : w.cell? ⟨PB, 338, none⟩ = some (.bool true)) : Calls Try.prog 22 #[.pointer (some ⟨PB, 0, none⟩), .agg #[.iface T (.pointer (some ⟨b, 0, none⟩)), .int .i32 l]] w (SlP (decide (T = 174)) w) := by
  have hb := block_lt_of_cell hp
  simp only at hb
  have hne : PB ≠ w.heap.size := by omega
  rcases hT with rfl | rfl
  all_goals
    go_enter Try.func22, Try.ntmps22
    go_wp2_with fail
    go_ret
    exact ⟨rfl, (Below.refl _ _).alloc (Nat.le_refl _) _⟩
/-- The zero expression. -/
def ZeP (w : World) (e : Ending) (w' : World) : Prop := e = .returned (.agg #[.nilIface, .int .i32 0]) ∧ Below w.heap.size w w'
set_option maxRecDepth 100000 in
set_option maxHeartbeats 1000000 in
theorem ex20_bare (w : World) (PB T b : Nat) (l : Int) (hT : T = 174 ∨ T = 184) : Calls Try.prog 20 #[.pointer (some ⟨PB, 0, none⟩), .agg #[.iface T (.pointer (some ⟨b, 0, none⟩)), .int .i32 l]] w (ZeP w) := by
  rcases hT with rfl | rfl
  all_goals
    go_enter Try.func20, Try.ntmps20
    go_wp2_with fail
    refine bodyPost_ret (v := .agg #[.nilIface, .int .i32 0]) (by simp [results, Try.results20, go_sem]) rfl ⟨rfl, ?_⟩
    first | exact ((Below.refl _ _).alloc (Nat.le_refl _) _).alloc (by simp) _ | exact ((((Below.refl _ _).alloc (Nat.le_refl _) _).alloc (by simp) _).setCell (by simp) _).setCell (by simp) _
structure Bx (g : Nat) (a w' : World) : Prop where
  size : a.heap.size ≤ w'.heap.size
  blk : ∀ k, k < a.heap.size → k ≠ g → w'.heap[k]? = a.heap[k]?
theorem Bx.refl (g : Nat) (a : World) : Bx g a a := ⟨Nat.le_refl _, fun _ _ _ => rfl⟩
theorem Bx.drew {g : Nat} {a w' : World} (h : Bx g a w') : Bx g a w'.drew := ⟨h.size, h.blk⟩
theorem Bx.alloc {g : Nat} {a w' : World} (h : Bx g a w') (o : Obj) : Bx g a (w'.alloc o) := ⟨by have := h.size; simp; omega, fun k hk hn => (Below.heap_alloc _ _ _ (Nat.lt_of_lt_of_le hk h.size)).trans (h.blk k hk hn)⟩
theorem Bx.set {g : Nat} {a w' : World} (h : Bx g a w') (p : Nat) (v : Value) : Bx g a (w'.setCell ⟨g, p, none⟩ v) := ⟨by simpa [World.setCell] using h.size, fun k hk hn => (Below.heap_setCell _ _ _ _ (by exact hn)).trans (h.blk k hk hn)⟩
theorem Bx.below {g : Nat} {a W w' : World} (h : Bx g a W) (hb : Below W.heap.size W w') : Bx g a w' := ⟨Nat.le_trans h.size hb.size, fun k hk hn => (hb.block k (Nat.lt_of_lt_of_le hk h.size)).trans (h.blk k hk hn)⟩
theorem Bx.keep {g b nlo : Nat} {a : World} {v2 v3 : Value} (c2 : a.cell? ⟨b, 2, none⟩ = some v2) (c3 : a.cell? ⟨b, 3, none⟩ = some v3) (hb : b ≠ g) : ∀ w', Bx g a w' → w'.cell? ⟨b, 2, none⟩ = some v2 ∧ w'.cell? ⟨b, 3, none⟩ = some v3 ∧ Bx g a w' := fun w' h =>
  ⟨(World.cell?_of_block (a := ⟨b, 2, none⟩) (h.blk b (block_lt_of_cell c2) hb)).trans c2, (World.cell?_of_block (a := ⟨b, 3, none⟩) (h.blk b (block_lt_of_cell c3) hb)).trans c3, h⟩
def wit (w : World) (v : Value) (l : Int) : World := (w.alloc (.cells #[v, .int .i32 l] 31)).alloc (.cells #[.nilIface, .int .i32 0] 31)
theorem wit_below (w : World) (v : Value) (l : Int) : Below w.heap.size w (wit w v l) := ((Below.refl _ _).alloc (Nat.le_refl _) _).alloc (by simp) _
set_option maxRecDepth 100000 in
set_option maxHeartbeats 4000000 in
theorem ex20_dot_t174 (w : World) (PB b tb : Nat) (tl l nl : Int) (name : ByteArray) (hn : name.size ≤ 1048576) (hp : w.cell? ⟨PB, 338, none⟩ = some (.bool true)) (hd : Dot w b 174 tb tl name nl) :
    Calls Try.prog 20 #[.pointer (some ⟨PB, 0, none⟩), .agg #[.iface 170 (.pointer (some ⟨b, 0, none⟩)), .int .i32 l]] w (StrP (us name name.size 0) nl w) := by
  have HD := Lib.hid hd
  obtain ⟨d0, d1, d2, d3⟩ := hd
  have hbl := block_lt_of_cell d0
  simp only at hbl
  have hpl := block_lt_of_cell hp
  simp only at hpl
  have hp2 := ((wit_below w (.iface 170 (.pointer (some ⟨b, 0, none⟩))) l).cell (p := ⟨PB, 338, none⟩) hpl).trans hp
  unfold wit at hp2
  go_enter Try.func20, Try.ntmps20
  go_wp2_with fail
  refine (sl22 _ PB 174 tb tl (by simp) hp2).mono ?_
  rintro e w2 ⟨rfl, hb⟩
  have r0 : w2.cell? ⟨w.heap.size + 1, 0, none⟩ = some .nilIface := (hb.cell (p := ⟨w.heap.size + 1, 0, none⟩) (by simp)).trans (by simp)
  have r1 : w2.cell? ⟨w.heap.size + 1, 1, none⟩ = some (.int .i32 0) := (hb.cell (p := ⟨w.heap.size + 1, 1, none⟩) (by simp)).trans (by simp)
  have r2 : w2.frozen? ⟨w.heap.size + 1, 0, none⟩ = false := (hb.frozen (p := ⟨w.heap.size + 1, 0, none⟩) (by simp)).trans (by simp)
  have r3 : w2.frozen? ⟨w.heap.size + 1, 1, none⟩ = false := (hb.frozen (p := ⟨w.heap.size + 1, 1, none⟩) (by simp)).trans (by simp)
  have hz : w.heap.size + 1 < w2.heap.size := by have := hb.size; simp at this; omega
  have hbb := (wit_below w (.iface 170 (.pointer (some ⟨b, 0, none⟩))) l).trans (hb.mono (by simp; omega))
  have HB := Lib.hid hbb
  have HD2 := Lib.hid (HD.out.below HB.out)
  obtain ⟨e0, e1, e2, e3⟩ := HD2.out
  clear hb hbb hp2
  have hde : decide ((174 : Nat) = 174) = true := by decide
  go_simp
  go_upto_region 5 with (fail)
  have hbw := Nat.lt_of_lt_of_le hbl HB.out.size
  have hk0 := Bx.refl (w.heap.size + 1) w2
  have K4 := Lib.hid (Bx.keep (g := w.heap.size + 1) (nlo := 0) e2 e3 (by omega))
  go_region_held3 (fun w' => w'.cell? ⟨b, 2, none⟩ = some (.string name) ∧ w'.cell? ⟨b, 3, none⟩ = some (.int .i32 nl) ∧ Bx (w.heap.size + 1) w2 w')
    (first | (refine K4.out _ ?_; repeat (first | assumption | exact hbx | refine Bx.drew ?_ | refine Bx.alloc ?_ _ | refine Bx.set ?_ _ _)))
    (first | (go_at_call 21; (refine (s2u _ name hn).mono ?_); rintro e w3 ⟨⟨v, rfl, hv⟩, hb3⟩; have hb3' : Below w2.heap.size w2 w3 := (by first | exact hb3 | exact (Below.refl _ _).drew.trans hb3); have hbx := hk0.below hb3'; have s0 := (hb3'.cell (p := ⟨w.heap.size + 1, 0, none⟩) hz).trans r0; have s1 := (hb3'.cell (p := ⟨w.heap.size + 1, 1, none⟩) hz).trans r1; have s2 := (hb3'.frozen (p := ⟨w.heap.size + 1, 0, none⟩) hz).trans r2; have s3 := (hb3'.frozen (p := ⟨w.heap.size + 1, 1, none⟩) hz).trans r3; have hz3 : w.heap.size + 1 < w3.heap.size := Nat.lt_of_lt_of_le hz hb3'.size; obtain ⟨va, vc, rfl, hrow⟩ := hv; have HV : Hid (LiB w2.heap.size w3 (.slice va (us name name.size 0).length vc) (us name name.size 0)) := Lib.hid ⟨va, vc, rfl, hrow⟩; have HB3 := Lib.hid (HB.out.trans (hb3'.mono HB.out.size)); clear hb3 hb3' hrow))
  all_goals
    go_wp2_with fail
    refine bodyPost_ret (v := .agg #[.iface 178 (.pointer (some ⟨w3.heap.size, 0, none⟩)), .int .i32 nl]) (by simp [results, Try.results20, go_sem, s0, s1, s2, s3, hz3]) rfl ⟨w3.heap.size, rfl, ?_, ?_⟩
    · have hsz : ∀ A v B v', ((w3.setCell A v).setCell B v').heap.size = w3.heap.size := fun _ _ _ _ => by simp [World.setCell]
      have hw3 := HB3.out.size
      have hw2 := HB.out.size
      refine ⟨by omega, .slice va (us name name.size 0).length vc, ?_, HV.out.mono (by omega) fun q hq hlt => ?_⟩
      · have h := fun A v B v' o => heap_alloc_new ((w3.setCell A v).setCell B v') o
        simp only [hsz] at h
        exact (cell_of_row _ w3.heap.size 0 _ _ _ (h _ _ _ _ _)).trans rfl
      · rw [Below.heap_alloc _ _ _ (by rw [hsz]; exact hlt), Below.heap_setCell _ _ _ _ (by show q ≠ w.heap.size + 1; omega), Below.heap_setCell _ _ _ _ (by show q ≠ w.heap.size + 1; omega)]
    · exact ((HB3.out.setCell (by exact Nat.le_succ _) _).setCell (by exact Nat.le_succ _) _).alloc (by simpa [World.setCell] using HB3.out.size) _
set_option maxRecDepth 100000 in
set_option maxHeartbeats 4000000 in
theorem ex20_dot_t184 (w : World) (PB b tb : Nat) (tl l nl : Int) (name : ByteArray) (hn : name.size ≤ 1048576) (hp : w.cell? ⟨PB, 338, none⟩ = some (.bool true)) (hd : Dot w b 184 tb tl name nl) :
    Calls Try.prog 20 #[.pointer (some ⟨PB, 0, none⟩), .agg #[.iface 170 (.pointer (some ⟨b, 0, none⟩)), .int .i32 l]] w (ZeP w) := by
  have HD := Lib.hid hd
  obtain ⟨d0, d1, d2, d3⟩ := hd
  have hbl := block_lt_of_cell d0
  simp only at hbl
  have hpl := block_lt_of_cell hp
  simp only at hpl
  have hp2 := ((wit_below w (.iface 170 (.pointer (some ⟨b, 0, none⟩))) l).cell (p := ⟨PB, 338, none⟩) hpl).trans hp
  unfold wit at hp2
  go_enter Try.func20, Try.ntmps20
  go_wp2_with fail
  refine (sl22 _ PB 184 tb tl (by simp) hp2).mono ?_
  rintro e w2 ⟨rfl, hb⟩
  have r0 : w2.cell? ⟨w.heap.size + 1, 0, none⟩ = some .nilIface := (hb.cell (p := ⟨w.heap.size + 1, 0, none⟩) (by simp)).trans (by simp)
  have r1 : w2.cell? ⟨w.heap.size + 1, 1, none⟩ = some (.int .i32 0) := (hb.cell (p := ⟨w.heap.size + 1, 1, none⟩) (by simp)).trans (by simp)
  have r2 : w2.frozen? ⟨w.heap.size + 1, 0, none⟩ = false := (hb.frozen (p := ⟨w.heap.size + 1, 0, none⟩) (by simp)).trans (by simp)
  have r3 : w2.frozen? ⟨w.heap.size + 1, 1, none⟩ = false := (hb.frozen (p := ⟨w.heap.size + 1, 1, none⟩) (by simp)).trans (by simp)
  have hz : w.heap.size + 1 < w2.heap.size := by have := hb.size; simp at this; omega
  have hbb := (wit_below w (.iface 170 (.pointer (some ⟨b, 0, none⟩))) l).trans (hb.mono (by simp; omega))
  have HB := Lib.hid hbb
  clear hb hbb hp2
  have hde : decide ((184 : Nat) = 174) = false := by decide
  go_simp
  go_wp2_with fail
  refine bodyPost_ret (v := .agg #[.nilIface, .int .i32 0]) (by simp [results, Try.results20, go_sem, r0, r1, r2, r3, hz]) rfl ⟨rfl, ?_⟩
  exact (HB.out.setCell (by exact Nat.le_succ _) _).setCell (by exact Nat.le_succ _) _
set_option maxRecDepth 100000 in
set_option maxHeartbeats 4000000 in
theorem ex20_dot_f174 (w : World) (PB b tb : Nat) (tl l nl : Int) (name : ByteArray) (hn : name.size ≤ 1048576) (hp : w.cell? ⟨PB, 338, none⟩ = some (.bool false)) (hd : Dot w b 174 tb tl name nl) :
    Calls Try.prog 20 #[.pointer (some ⟨PB, 0, none⟩), .agg #[.iface 170 (.pointer (some ⟨b, 0, none⟩)), .int .i32 l]] w (ZeP w) := by
  have HD := Lib.hid hd
  obtain ⟨d0, d1, d2, d3⟩ := hd
  have hbl := block_lt_of_cell d0
  simp only at hbl
  have hpl := block_lt_of_cell hp
  simp only at hpl
  have hp2 := ((wit_below w (.iface 170 (.pointer (some ⟨b, 0, none⟩))) l).cell (p := ⟨PB, 338, none⟩) hpl).trans hp
  unfold wit at hp2
  go_enter Try.func20, Try.ntmps20
  go_wp2_with fail
  refine (sl22_no _ PB 174 tb tl hp2).mono ?_
  rintro e w2 ⟨rfl, hb⟩
  have r0 : w2.cell? ⟨w.heap.size + 1, 0, none⟩ = some .nilIface := (hb.cell (p := ⟨w.heap.size + 1, 0, none⟩) (by simp)).trans (by simp)
  have r1 : w2.cell? ⟨w.heap.size + 1, 1, none⟩ = some (.int .i32 0) := (hb.cell (p := ⟨w.heap.size + 1, 1, none⟩) (by simp)).trans (by simp)
  have r2 : w2.frozen? ⟨w.heap.size + 1, 0, none⟩ = false := (hb.frozen (p := ⟨w.heap.size + 1, 0, none⟩) (by simp)).trans (by simp)
  have r3 : w2.frozen? ⟨w.heap.size + 1, 1, none⟩ = false := (hb.frozen (p := ⟨w.heap.size + 1, 1, none⟩) (by simp)).trans (by simp)
  have hz : w.heap.size + 1 < w2.heap.size := by have := hb.size; simp at this; omega
  have hbb := (wit_below w (.iface 170 (.pointer (some ⟨b, 0, none⟩))) l).trans (hb.mono (by simp; omega))
  have HB := Lib.hid hbb
  clear hb hbb hp2
  have hde : decide ((184 : Nat) = 174) = false := by decide
  go_simp
  go_wp2_with fail
  refine bodyPost_ret (v := .agg #[.nilIface, .int .i32 0]) (by simp [results, Try.results20, go_sem, r0, r1, r2, r3, hz]) rfl ⟨rfl, ?_⟩
  exact (HB.out.setCell (by exact Nat.le_succ _) _).setCell (by exact Nat.le_succ _) _
set_option maxRecDepth 100000 in
set_option maxHeartbeats 4000000 in
theorem ex20_dot_f184 (w : World) (PB b tb : Nat) (tl l nl : Int) (name : ByteArray) (hn : name.size ≤ 1048576) (hp : w.cell? ⟨PB, 338, none⟩ = some (.bool false)) (hd : Dot w b 184 tb tl name nl) :
    Calls Try.prog 20 #[.pointer (some ⟨PB, 0, none⟩), .agg #[.iface 170 (.pointer (some ⟨b, 0, none⟩)), .int .i32 l]] w (ZeP w) := by
  have HD := Lib.hid hd
  obtain ⟨d0, d1, d2, d3⟩ := hd
  have hbl := block_lt_of_cell d0
  simp only at hbl
  have hpl := block_lt_of_cell hp
  simp only at hpl
  have hp2 := ((wit_below w (.iface 170 (.pointer (some ⟨b, 0, none⟩))) l).cell (p := ⟨PB, 338, none⟩) hpl).trans hp
  unfold wit at hp2
  go_enter Try.func20, Try.ntmps20
  go_wp2_with fail
  refine (sl22_no _ PB 184 tb tl hp2).mono ?_
  rintro e w2 ⟨rfl, hb⟩
  have r0 : w2.cell? ⟨w.heap.size + 1, 0, none⟩ = some .nilIface := (hb.cell (p := ⟨w.heap.size + 1, 0, none⟩) (by simp)).trans (by simp)
  have r1 : w2.cell? ⟨w.heap.size + 1, 1, none⟩ = some (.int .i32 0) := (hb.cell (p := ⟨w.heap.size + 1, 1, none⟩) (by simp)).trans (by simp)
  have r2 : w2.frozen? ⟨w.heap.size + 1, 0, none⟩ = false := (hb.frozen (p := ⟨w.heap.size + 1, 0, none⟩) (by simp)).trans (by simp)
  have r3 : w2.frozen? ⟨w.heap.size + 1, 1, none⟩ = false := (hb.frozen (p := ⟨w.heap.size + 1, 1, none⟩) (by simp)).trans (by simp)
  have hz : w.heap.size + 1 < w2.heap.size := by have := hb.size; simp at this; omega
  have hbb := (wit_below w (.iface 170 (.pointer (some ⟨b, 0, none⟩))) l).trans (hb.mono (by simp; omega))
  have HB := Lib.hid hbb
  clear hb hbb hp2
  have hde : decide ((184 : Nat) = 174) = false := by decide
  go_simp
  go_wp2_with fail
  refine bodyPost_ret (v := .agg #[.nilIface, .int .i32 0]) (by simp [results, Try.results20, go_sem, r0, r1, r2, r3, hz]) rfl ⟨rfl, ?_⟩
  exact (HB.out.setCell (by exact Nat.le_succ _) _).setCell (by exact Nat.le_succ _) _

def IxP (ib : Nat) (il : Int) (w : World) (e : Ending) (w' : World) : Prop := e = .returned (.agg #[.iface 178 (.pointer (some ⟨ib, 0, none⟩)), .int .i32 il]) ∧ Below w.heap.size w w'
set_option maxRecDepth 100000 in
set_option maxHeartbeats 4000000 in
theorem ex20_idx_t174 (w : World) (PB b tb ib : Nat) (tl l il : Int) (hp : w.cell? ⟨PB, 338, none⟩ = some (.bool true)) (hd : Idx w b 174 tb tl ib il) :
    Calls Try.prog 20 #[.pointer (some ⟨PB, 0, none⟩), .agg #[.iface 187 (.pointer (some ⟨b, 0, none⟩)), .int .i32 l]] w (IxP ib il w) := by
  have HD := Lib.hid hd
  obtain ⟨d0, d1, d2, d3⟩ := hd
  have hbl := block_lt_of_cell d0
  simp only at hbl
  have hpl := block_lt_of_cell hp
  simp only at hpl
  have hp2 := ((wit_below w (.iface 187 (.pointer (some ⟨b, 0, none⟩))) l).cell (p := ⟨PB, 338, none⟩) hpl).trans hp
  unfold wit at hp2
  go_enter Try.func20, Try.ntmps20
  go_wp2_with fail
  refine (sl22 _ PB 174 tb tl (by simp) hp2).mono ?_
  rintro e w2 ⟨rfl, hb⟩
  have r0 : w2.cell? ⟨w.heap.size + 1, 0, none⟩ = some .nilIface := (hb.cell (p := ⟨w.heap.size + 1, 0, none⟩) (by simp)).trans (by simp)
  have r1 : w2.cell? ⟨w.heap.size + 1, 1, none⟩ = some (.int .i32 0) := (hb.cell (p := ⟨w.heap.size + 1, 1, none⟩) (by simp)).trans (by simp)
  have r2 : w2.frozen? ⟨w.heap.size + 1, 0, none⟩ = false := (hb.frozen (p := ⟨w.heap.size + 1, 0, none⟩) (by simp)).trans (by simp)
  have r3 : w2.frozen? ⟨w.heap.size + 1, 1, none⟩ = false := (hb.frozen (p := ⟨w.heap.size + 1, 1, none⟩) (by simp)).trans (by simp)
  have hz : w.heap.size + 1 < w2.heap.size := by have := hb.size; simp at this; omega
  have hbb := (wit_below w (.iface 187 (.pointer (some ⟨b, 0, none⟩))) l).trans (hb.mono (by simp; omega))
  have HB := Lib.hid hbb
  have HD2 := Lib.hid (HD.out.below HB.out)
  obtain ⟨e0, e1, e2, e3⟩ := HD2.out
  have hnb : b ≠ w.heap.size + 1 := by omega
  clear hb hbb hp2
  have hde : decide ((174 : Nat) = 174) = true := by decide
  go_simp
  go_wp2_with fail
  refine bodyPost_ret (v := .agg #[.iface 178 (.pointer (some ⟨ib, 0, none⟩)), .int .i32 il]) (by simp [results, Try.results20, go_sem, r0, r1, r2, r3, hz]) rfl ⟨rfl, ?_⟩
  exact (HB.out.setCell (by exact Nat.le_succ _) _).setCell (by exact Nat.le_succ _) _
set_option maxRecDepth 100000 in
set_option maxHeartbeats 4000000 in
theorem ex20_idx_t184 (w : World) (PB b tb ib : Nat) (tl l il : Int) (hp : w.cell? ⟨PB, 338, none⟩ = some (.bool true)) (hd : Idx w b 184 tb tl ib il) :
    Calls Try.prog 20 #[.pointer (some ⟨PB, 0, none⟩), .agg #[.iface 187 (.pointer (some ⟨b, 0, none⟩)), .int .i32 l]] w (ZeP w) := by
  have HD := Lib.hid hd
  obtain ⟨d0, d1, d2, d3⟩ := hd
  have hbl := block_lt_of_cell d0
  simp only at hbl
  have hpl := block_lt_of_cell hp
  simp only at hpl
  have hp2 := ((wit_below w (.iface 187 (.pointer (some ⟨b, 0, none⟩))) l).cell (p := ⟨PB, 338, none⟩) hpl).trans hp
  unfold wit at hp2
  go_enter Try.func20, Try.ntmps20
  go_wp2_with fail
  refine (sl22 _ PB 184 tb tl (by simp) hp2).mono ?_
  rintro e w2 ⟨rfl, hb⟩
  have r0 : w2.cell? ⟨w.heap.size + 1, 0, none⟩ = some .nilIface := (hb.cell (p := ⟨w.heap.size + 1, 0, none⟩) (by simp)).trans (by simp)
  have r1 : w2.cell? ⟨w.heap.size + 1, 1, none⟩ = some (.int .i32 0) := (hb.cell (p := ⟨w.heap.size + 1, 1, none⟩) (by simp)).trans (by simp)
  have r2 : w2.frozen? ⟨w.heap.size + 1, 0, none⟩ = false := (hb.frozen (p := ⟨w.heap.size + 1, 0, none⟩) (by simp)).trans (by simp)
  have r3 : w2.frozen? ⟨w.heap.size + 1, 1, none⟩ = false := (hb.frozen (p := ⟨w.heap.size + 1, 1, none⟩) (by simp)).trans (by simp)
  have hz : w.heap.size + 1 < w2.heap.size := by have := hb.size; simp at this; omega
  have hbb := (wit_below w (.iface 187 (.pointer (some ⟨b, 0, none⟩))) l).trans (hb.mono (by simp; omega))
  have HB := Lib.hid hbb
  have HD2 := Lib.hid (HD.out.below HB.out)
  obtain ⟨e0, e1, e2, e3⟩ := HD2.out
  have hnb : b ≠ w.heap.size + 1 := by omega
  clear hb hbb hp2
  have hde : decide ((184 : Nat) = 174) = false := by decide
  go_simp
  go_wp2_with fail
  refine bodyPost_ret (v := .agg #[.nilIface, .int .i32 0]) (by simp [results, Try.results20, go_sem, r0, r1, r2, r3, hz]) rfl ⟨rfl, ?_⟩
  exact (HB.out.setCell (by exact Nat.le_succ _) _).setCell (by exact Nat.le_succ _) _
set_option maxRecDepth 100000 in
set_option maxHeartbeats 4000000 in
theorem ex20_idx_f174 (w : World) (PB b tb ib : Nat) (tl l il : Int) (hp : w.cell? ⟨PB, 338, none⟩ = some (.bool false)) (hd : Idx w b 174 tb tl ib il) :
    Calls Try.prog 20 #[.pointer (some ⟨PB, 0, none⟩), .agg #[.iface 187 (.pointer (some ⟨b, 0, none⟩)), .int .i32 l]] w (ZeP w) := by
  have HD := Lib.hid hd
  obtain ⟨d0, d1, d2, d3⟩ := hd
  have hbl := block_lt_of_cell d0
  simp only at hbl
  have hpl := block_lt_of_cell hp
  simp only at hpl
  have hp2 := ((wit_below w (.iface 187 (.pointer (some ⟨b, 0, none⟩))) l).cell (p := ⟨PB, 338, none⟩) hpl).trans hp
  unfold wit at hp2
  go_enter Try.func20, Try.ntmps20
  go_wp2_with fail
  refine (sl22_no _ PB 174 tb tl hp2).mono ?_
  rintro e w2 ⟨rfl, hb⟩
  have r0 : w2.cell? ⟨w.heap.size + 1, 0, none⟩ = some .nilIface := (hb.cell (p := ⟨w.heap.size + 1, 0, none⟩) (by simp)).trans (by simp)
  have r1 : w2.cell? ⟨w.heap.size + 1, 1, none⟩ = some (.int .i32 0) := (hb.cell (p := ⟨w.heap.size + 1, 1, none⟩) (by simp)).trans (by simp)
  have r2 : w2.frozen? ⟨w.heap.size + 1, 0, none⟩ = false := (hb.frozen (p := ⟨w.heap.size + 1, 0, none⟩) (by simp)).trans (by simp)
  have r3 : w2.frozen? ⟨w.heap.size + 1, 1, none⟩ = false := (hb.frozen (p := ⟨w.heap.size + 1, 1, none⟩) (by simp)).trans (by simp)
  have hz : w.heap.size + 1 < w2.heap.size := by have := hb.size; simp at this; omega
  have hbb := (wit_below w (.iface 187 (.pointer (some ⟨b, 0, none⟩))) l).trans (hb.mono (by simp; omega))
  have HB := Lib.hid hbb
  have HD2 := Lib.hid (HD.out.below HB.out)
  obtain ⟨e0, e1, e2, e3⟩ := HD2.out
  have hnb : b ≠ w.heap.size + 1 := by omega
  clear hb hbb hp2
  have hde : decide ((174 : Nat) = 174) = true := by decide
  go_simp
  go_wp2_with fail
  refine bodyPost_ret (v := .agg #[.nilIface, .int .i32 0]) (by simp [results, Try.results20, go_sem, r0, r1, r2, r3, hz]) rfl ⟨rfl, ?_⟩
  exact (HB.out.setCell (by exact Nat.le_succ _) _).setCell (by exact Nat.le_succ _) _
set_option maxRecDepth 100000 in
set_option maxHeartbeats 4000000 in
theorem ex20_idx_f184 (w : World) (PB b tb ib : Nat) (tl l il : Int) (hp : w.cell? ⟨PB, 338, none⟩ = some (.bool false)) (hd : Idx w b 184 tb tl ib il) :
    Calls Try.prog 20 #[.pointer (some ⟨PB, 0, none⟩), .agg #[.iface 187 (.pointer (some ⟨b, 0, none⟩)), .int .i32 l]] w (ZeP w) := by
  have HD := Lib.hid hd
  obtain ⟨d0, d1, d2, d3⟩ := hd
  have hbl := block_lt_of_cell d0
  simp only at hbl
  have hpl := block_lt_of_cell hp
  simp only at hpl
  have hp2 := ((wit_below w (.iface 187 (.pointer (some ⟨b, 0, none⟩))) l).cell (p := ⟨PB, 338, none⟩) hpl).trans hp
  unfold wit at hp2
  go_enter Try.func20, Try.ntmps20
  go_wp2_with fail
  refine (sl22_no _ PB 184 tb tl hp2).mono ?_
  rintro e w2 ⟨rfl, hb⟩
  have r0 : w2.cell? ⟨w.heap.size + 1, 0, none⟩ = some .nilIface := (hb.cell (p := ⟨w.heap.size + 1, 0, none⟩) (by simp)).trans (by simp)
  have r1 : w2.cell? ⟨w.heap.size + 1, 1, none⟩ = some (.int .i32 0) := (hb.cell (p := ⟨w.heap.size + 1, 1, none⟩) (by simp)).trans (by simp)
  have r2 : w2.frozen? ⟨w.heap.size + 1, 0, none⟩ = false := (hb.frozen (p := ⟨w.heap.size + 1, 0, none⟩) (by simp)).trans (by simp)
  have r3 : w2.frozen? ⟨w.heap.size + 1, 1, none⟩ = false := (hb.frozen (p := ⟨w.heap.size + 1, 1, none⟩) (by simp)).trans (by simp)
  have hz : w.heap.size + 1 < w2.heap.size := by have := hb.size; simp at this; omega
  have hbb := (wit_below w (.iface 187 (.pointer (some ⟨b, 0, none⟩))) l).trans (hb.mono (by simp; omega))
  have HB := Lib.hid hbb
  have HD2 := Lib.hid (HD.out.below HB.out)
  obtain ⟨e0, e1, e2, e3⟩ := HD2.out
  have hnb : b ≠ w.heap.size + 1 := by omega
  clear hb hbb hp2
  have hde : decide ((184 : Nat) = 174) = false := by decide
  go_simp
  go_wp2_with fail
  refine bodyPost_ret (v := .agg #[.nilIface, .int .i32 0]) (by simp [results, Try.results20, go_sem, r0, r1, r2, r3, hz]) rfl ⟨rfl, ?_⟩
  exact (HB.out.setCell (by exact Nat.le_succ _) _).setCell (by exact Nat.le_succ _) _
end Go.Proofs.Ytjhmdagdmclknaa.ut
