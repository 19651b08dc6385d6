/-
  extractSuperProperty: the wrapper and the reader.
-/
import Derived.Test.YtjhmdagdmclknaaUe
namespace Go.Proofs.Ytjhmdagdmclknaa.ut
open Go.ChangeShapes Go.WideShapes Go.ChangeAt Go.RowKit Go.Deep Go.Proofs.Ytjhmdagdmclknaa.u8
set_option linter.unusedVariables false
set_option linter.unusedSimpArgs false
set_option maxRecDepth 100000 in
set_option maxHeartbeats 4000000 in
theorem ex10_bare_t174 (w : World) (PB : Nat) (tb : Nat) (l : Int) (hp : w.cell? ⟨PB, 338, none⟩ = some (.bool true))  :
    Calls Try.prog 10 #[.pointer (some ⟨PB, 0, none⟩), .agg #[.iface 174 (.pointer (some ⟨tb, 0, none⟩)), .int .i32 l]] w (ZeP w) := by
  have hpl := block_lt_of_cell hp
  simp only at hpl
  have hp2 := ((wit_below w (.iface 174 (.pointer (some ⟨tb, 0, none⟩))) l).cell (p := ⟨PB, 338, none⟩) hpl).trans hp
  unfold wit at hp2
  skip
  go_enter Try.func10, Try.ntmps10
  go_wp2_with fail
  refine (ex20_bare _ PB 174 tb l (by simp)).mono ?_
  rintro e w2 ⟨rfl, hb⟩
  have r0 : w2.cell? ⟨w.heap.size + 1, 0, none⟩ = some .nilIface := (hb.cell (p := ⟨w.heap.size + 1, 0, none⟩) (by simp)).trans (by simp)
  have r1 : w2.cell? ⟨w.heap.size + 1, 1, none⟩ = some (.int .i32 0) := (hb.cell (p := ⟨w.heap.size + 1, 1, none⟩) (by simp)).trans (by simp)
  have r2 : w2.frozen? ⟨w.heap.size + 1, 0, none⟩ = false := (hb.frozen (p := ⟨w.heap.size + 1, 0, none⟩) (by simp)).trans (by simp)
  have r3 : w2.frozen? ⟨w.heap.size + 1, 1, none⟩ = false := (hb.frozen (p := ⟨w.heap.size + 1, 1, none⟩) (by simp)).trans (by simp)
  have hz : w.heap.size + 1 < w2.heap.size := by have := hb.size; simp at this; omega
  have hbb := (wit_below w (.iface 174 (.pointer (some ⟨tb, 0, none⟩))) l).trans (hb.mono (by simp; omega))
  have HB := Lib.hid hbb
  clear hb hbb hp2
  go_simp
  go_wp2_with fail
  refine bodyPost_ret (v := .agg #[.nilIface, .int .i32 0]) (by simp [results, Try.results10, go_sem, r0, r1, r2, r3, hz]) rfl ⟨rfl, ?_⟩
  exact (HB.out.setCell (by exact Nat.le_succ _) _).setCell (by exact Nat.le_succ _) _
set_option maxRecDepth 100000 in
set_option maxHeartbeats 4000000 in
theorem ex10_bare_t184 (w : World) (PB : Nat) (tb : Nat) (l : Int) (hp : w.cell? ⟨PB, 338, none⟩ = some (.bool true))  :
    Calls Try.prog 10 #[.pointer (some ⟨PB, 0, none⟩), .agg #[.iface 184 (.pointer (some ⟨tb, 0, none⟩)), .int .i32 l]] w (ZeP w) := by
  have hpl := block_lt_of_cell hp
  simp only at hpl
  have hp2 := ((wit_below w (.iface 184 (.pointer (some ⟨tb, 0, none⟩))) l).cell (p := ⟨PB, 338, none⟩) hpl).trans hp
  unfold wit at hp2
  skip
  go_enter Try.func10, Try.ntmps10
  go_wp2_with fail
  refine (ex20_bare _ PB 184 tb l (by simp)).mono ?_
  rintro e w2 ⟨rfl, hb⟩
  have r0 : w2.cell? ⟨w.heap.size + 1, 0, none⟩ = some .nilIface := (hb.cell (p := ⟨w.heap.size + 1, 0, none⟩) (by simp)).trans (by simp)
  have r1 : w2.cell? ⟨w.heap.size + 1, 1, none⟩ = some (.int .i32 0) := (hb.cell (p := ⟨w.heap.size + 1, 1, none⟩) (by simp)).trans (by simp)
  have r2 : w2.frozen? ⟨w.heap.size + 1, 0, none⟩ = false := (hb.frozen (p := ⟨w.heap.size + 1, 0, none⟩) (by simp)).trans (by simp)
  have r3 : w2.frozen? ⟨w.heap.size + 1, 1, none⟩ = false := (hb.frozen (p := ⟨w.heap.size + 1, 1, none⟩) (by simp)).trans (by simp)
  have hz : w.heap.size + 1 < w2.heap.size := by have := hb.size; simp at this; omega
  have hbb := (wit_below w (.iface 184 (.pointer (some ⟨tb, 0, none⟩))) l).trans (hb.mono (by simp; omega))
  have HB := Lib.hid hbb
  clear hb hbb hp2
  go_simp
  go_wp2_with fail
  refine bodyPost_ret (v := .agg #[.nilIface, .int .i32 0]) (by simp [results, Try.results10, go_sem, r0, r1, r2, r3, hz]) rfl ⟨rfl, ?_⟩
  exact (HB.out.setCell (by exact Nat.le_succ _) _).setCell (by exact Nat.le_succ _) _
set_option maxRecDepth 100000 in
set_option maxHeartbeats 4000000 in
theorem ex10_bare_f174 (w : World) (PB : Nat) (tb : Nat) (l : Int) (hp : w.cell? ⟨PB, 338, none⟩ = some (.bool false))  :
    Calls Try.prog 10 #[.pointer (some ⟨PB, 0, none⟩), .agg #[.iface 174 (.pointer (some ⟨tb, 0, none⟩)), .int .i32 l]] w (ZeP w) := by
  have hpl := block_lt_of_cell hp
  simp only at hpl
  have hp2 := ((wit_below w (.iface 174 (.pointer (some ⟨tb, 0, none⟩))) l).cell (p := ⟨PB, 338, none⟩) hpl).trans hp
  unfold wit at hp2
  skip
  go_enter Try.func10, Try.ntmps10
  go_wp2_with fail
  refine (ex20_bare _ PB 174 tb l (by simp)).mono ?_
  rintro e w2 ⟨rfl, hb⟩
  have r0 : w2.cell? ⟨w.heap.size + 1, 0, none⟩ = some .nilIface := (hb.cell (p := ⟨w.heap.size + 1, 0, none⟩) (by simp)).trans (by simp)
  have r1 : w2.cell? ⟨w.heap.size + 1, 1, none⟩ = some (.int .i32 0) := (hb.cell (p := ⟨w.heap.size + 1, 1, none⟩) (by simp)).trans (by simp)
  have r2 : w2.frozen? ⟨w.heap.size + 1, 0, none⟩ = false := (hb.frozen (p := ⟨w.heap.size + 1, 0, none⟩) (by simp)).trans (by simp)
  have r3 : w2.frozen? ⟨w.heap.size + 1, 1, none⟩ = false := (hb.frozen (p := ⟨w.heap.size + 1, 1, none⟩) (by simp)).trans (by simp)
  have hz : w.heap.size + 1 < w2.heap.size := by have := hb.size; simp at this; omega
  have hbb := (wit_below w (.iface 174 (.pointer (some ⟨tb, 0, none⟩))) l).trans (hb.mono (by simp; omega))
  have HB := Lib.hid hbb
  clear hb hbb hp2
  go_simp
  go_wp2_with fail
  refine bodyPost_ret (v := .agg #[.nilIface, .int .i32 0]) (by simp [results, Try.results10, go_sem, r0, r1, r2, r3, hz]) rfl ⟨rfl, ?_⟩
  exact (HB.out.setCell (by exact Nat.le_succ _) _).setCell (by exact Nat.le_succ _) _
set_option maxRecDepth 100000 in
set_option maxHeartbeats 4000000 in
theorem ex10_bare_f184 (w : World) (PB : Nat) (tb : Nat) (l : Int) (hp : w.cell? ⟨PB, 338, none⟩ = some (.bool false))  :
    Calls Try.prog 10 #[.pointer (some ⟨PB, 0, none⟩), .agg #[.iface 184 (.pointer (some ⟨tb, 0, none⟩)), .int .i32 l]] w (ZeP w) := by
  have hpl := block_lt_of_cell hp
  simp only at hpl
  have hp2 := ((wit_below w (.iface 184 (.pointer (some ⟨tb, 0, none⟩))) l).cell (p := ⟨PB, 338, none⟩) hpl).trans hp
  unfold wit at hp2
  skip
  go_enter Try.func10, Try.ntmps10
  go_wp2_with fail
  refine (ex20_bare _ PB 184 tb l (by simp)).mono ?_
  rintro e w2 ⟨rfl, hb⟩
  have r0 : w2.cell? ⟨w.heap.size + 1, 0, none⟩ = some .nilIface := (hb.cell (p := ⟨w.heap.size + 1, 0, none⟩) (by simp)).trans (by simp)
  have r1 : w2.cell? ⟨w.heap.size + 1, 1, none⟩ = some (.int .i32 0) := (hb.cell (p := ⟨w.heap.size + 1, 1, none⟩) (by simp)).trans (by simp)
  have r2 : w2.frozen? ⟨w.heap.size + 1, 0, none⟩ = false := (hb.frozen (p := ⟨w.heap.size + 1, 0, none⟩) (by simp)).trans (by simp)
  have r3 : w2.frozen? ⟨w.heap.size + 1, 1, none⟩ = false := (hb.frozen (p := ⟨w.heap.size + 1, 1, none⟩) (by simp)).trans (by simp)
  have hz : w.heap.size + 1 < w2.heap.size := by have := hb.size; simp at this; omega
  have hbb := (wit_below w (.iface 184 (.pointer (some ⟨tb, 0, none⟩))) l).trans (hb.mono (by simp; omega))
  have HB := Lib.hid hbb
  clear hb hbb hp2
  go_simp
  go_wp2_with fail
  refine bodyPost_ret (v := .agg #[.nilIface, .int .i32 0]) (by simp [results, Try.results10, go_sem, r0, r1, r2, r3, hz]) rfl ⟨rfl, ?_⟩
  exact (HB.out.setCell (by exact Nat.le_succ _) _).setCell (by exact Nat.le_succ _) _
set_option maxRecDepth 100000 in
set_option maxHeartbeats 4000000 in
theorem ex10_dot_t174 (w : World) (PB : Nat) (b tb : Nat) (tl l nl : Int) (name : ByteArray) (hn : name.size ≤ 1048576) (hp : w.cell? ⟨PB, 338, none⟩ = some (.bool true)) (hd : Dot w b 174 tb tl name nl) :
    Calls Try.prog 10 #[.pointer (some ⟨PB, 0, none⟩), .agg #[.iface 170 (.pointer (some ⟨b, 0, none⟩)), .int .i32 l]] w (StrP (us name name.size 0) nl w) := by
  have HD2 := Lib.hid (hd.below (wit_below w (.iface 170 (.pointer (some ⟨b, 0, none⟩))) l))
  have hpl := block_lt_of_cell hp
  simp only at hpl
  have hp2 := ((wit_below w (.iface 170 (.pointer (some ⟨b, 0, none⟩))) l).cell (p := ⟨PB, 338, none⟩) hpl).trans hp
  unfold wit at hp2
  clear hd
  go_enter Try.func10, Try.ntmps10
  go_wp2_with fail
  refine (ex20_dot_t174 _ PB b tb tl l nl name hn hp2 HD2.out).mono ?_
  rintro e w2 ⟨b2, rfl, hst, hb⟩
  have r0 : w2.cell? ⟨w.heap.size + 1, 0, none⟩ = some .nilIface := (hb.cell (p := ⟨w.heap.size + 1, 0, none⟩) (by simp)).trans (by simp)
  have r1 : w2.cell? ⟨w.heap.size + 1, 1, none⟩ = some (.int .i32 0) := (hb.cell (p := ⟨w.heap.size + 1, 1, none⟩) (by simp)).trans (by simp)
  have r2 : w2.frozen? ⟨w.heap.size + 1, 0, none⟩ = false := (hb.frozen (p := ⟨w.heap.size + 1, 0, none⟩) (by simp)).trans (by simp)
  have r3 : w2.frozen? ⟨w.heap.size + 1, 1, none⟩ = false := (hb.frozen (p := ⟨w.heap.size + 1, 1, none⟩) (by simp)).trans (by simp)
  have hz : w.heap.size + 1 < w2.heap.size := by have := hb.size; simp at this; omega
  have hbb := (wit_below w (.iface 170 (.pointer (some ⟨b, 0, none⟩))) l).trans (hb.mono (by simp; omega))
  have HB := Lib.hid hbb
  have HST := Lib.hid hst
  clear hst
  clear hb hbb hp2
  go_simp
  go_wp2_with fail
  refine bodyPost_ret (v := .agg #[.iface 178 (.pointer (some ⟨b2, 0, none⟩)), .int .i32 nl]) (by simp [results, Try.results10, go_sem, r0, r1, r2, r3, hz]) rfl ⟨b2, rfl, HST.out.mono (by simp; omega) (fun q hq hlt => ?_), ?_⟩
  · simp at hq
    rw [Below.heap_setCell _ _ _ _ (by show q ≠ w.heap.size + 1; omega), Below.heap_setCell _ _ _ _ (by show q ≠ w.heap.size + 1; omega)]
  · exact (HB.out.setCell (by exact Nat.le_succ _) _).setCell (by exact Nat.le_succ _) _
set_option maxRecDepth 100000 in
set_option maxHeartbeats 4000000 in
theorem ex10_dot_t184 (w : World) (PB : Nat) (b tb : Nat) (tl l nl : Int) (name : ByteArray) (hn : name.size ≤ 1048576) (hp : w.cell? ⟨PB, 338, none⟩ = some (.bool true)) (hd : Dot w b 184 tb tl name nl) :
    Calls Try.prog 10 #[.pointer (some ⟨PB, 0, none⟩), .agg #[.iface 170 (.pointer (some ⟨b, 0, none⟩)), .int .i32 l]] w (ZeP w) := by
  have HD2 := Lib.hid (hd.below (wit_below w (.iface 170 (.pointer (some ⟨b, 0, none⟩))) l))
  have hpl := block_lt_of_cell hp
  simp only at hpl
  have hp2 := ((wit_below w (.iface 170 (.pointer (some ⟨b, 0, none⟩))) l).cell (p := ⟨PB, 338, none⟩) hpl).trans hp
  unfold wit at hp2
  clear hd
  go_enter Try.func10, Try.ntmps10
  go_wp2_with fail
  refine (ex20_dot_t184 _ PB b tb tl l nl name hn hp2 HD2.out).mono ?_
  rintro e w2 ⟨rfl, hb⟩
  have r0 : w2.cell? ⟨w.heap.size + 1, 0, none⟩ = some .nilIface := (hb.cell (p := ⟨w.heap.size + 1, 0, none⟩) (by simp)).trans (by simp)
  have r1 : w2.cell? ⟨w.heap.size + 1, 1, none⟩ = some (.int .i32 0) := (hb.cell (p := ⟨w.heap.size + 1, 1, none⟩) (by simp)).trans (by simp)
  have r2 : w2.frozen? ⟨w.heap.size + 1, 0, none⟩ = false := (hb.frozen (p := ⟨w.heap.size + 1, 0, none⟩) (by simp)).trans (by simp)
  have r3 : w2.frozen? ⟨w.heap.size + 1, 1, none⟩ = false := (hb.frozen (p := ⟨w.heap.size + 1, 1, none⟩) (by simp)).trans (by simp)
  have hz : w.heap.size + 1 < w2.heap.size := by have := hb.size; simp at this; omega
  have hbb := (wit_below w (.iface 170 (.pointer (some ⟨b, 0, none⟩))) l).trans (hb.mono (by simp; omega))
  have HB := Lib.hid hbb
  clear hb hbb hp2
  go_simp
  go_wp2_with fail
  refine bodyPost_ret (v := .agg #[.nilIface, .int .i32 0]) (by simp [results, Try.results10, go_sem, r0, r1, r2, r3, hz]) rfl ⟨rfl, ?_⟩
  exact (HB.out.setCell (by exact Nat.le_succ _) _).setCell (by exact Nat.le_succ _) _
set_option maxRecDepth 100000 in
set_option maxHeartbeats 4000000 in
theorem ex10_dot_f174 (w : World) (PB : Nat) (b tb : Nat) (tl l nl : Int) (name : ByteArray) (hn : name.size ≤ 1048576) (hp : w.cell? ⟨PB, 338, none⟩ = some (.bool false)) (hd : Dot w b 174 tb tl name nl) :
    Calls Try.prog 10 #[.pointer (some ⟨PB, 0, none⟩), .agg #[.iface 170 (.pointer (some ⟨b, 0, none⟩)), .int .i32 l]] w (ZeP w) := by
  have HD2 := Lib.hid (hd.below (wit_below w (.iface 170 (.pointer (some ⟨b, 0, none⟩))) l))
  have hpl := block_lt_of_cell hp
  simp only at hpl
  have hp2 := ((wit_below w (.iface 170 (.pointer (some ⟨b, 0, none⟩))) l).cell (p := ⟨PB, 338, none⟩) hpl).trans hp
  unfold wit at hp2
  clear hd
  go_enter Try.func10, Try.ntmps10
  go_wp2_with fail
  refine (ex20_dot_f174 _ PB b tb tl l nl name hn hp2 HD2.out).mono ?_
  rintro e w2 ⟨rfl, hb⟩
  have r0 : w2.cell? ⟨w.heap.size + 1, 0, none⟩ = some .nilIface := (hb.cell (p := ⟨w.heap.size + 1, 0, none⟩) (by simp)).trans (by simp)
  have r1 : w2.cell? ⟨w.heap.size + 1, 1, none⟩ = some (.int .i32 0) := (hb.cell (p := ⟨w.heap.size + 1, 1, none⟩) (by simp)).trans (by simp)
  have r2 : w2.frozen? ⟨w.heap.size + 1, 0, none⟩ = false := (hb.frozen (p := ⟨w.heap.size + 1, 0, none⟩) (by simp)).trans (by simp)
  have r3 : w2.frozen? ⟨w.heap.size + 1, 1, none⟩ = false := (hb.frozen (p := ⟨w.heap.size + 1, 1, none⟩) (by simp)).trans (by simp)
  have hz : w.heap.size + 1 < w2.heap.size := by have := hb.size; simp at this; omega
  have hbb := (wit_below w (.iface 170 (.pointer (some ⟨b, 0, none⟩))) l).trans (hb.mono (by simp; omega))
  have HB := Lib.hid hbb
  clear hb hbb hp2
  go_simp
  go_wp2_with fail
  refine bodyPost_ret (v := .agg #[.nilIface, .int .i32 0]) (by simp [results, Try.results10, go_sem, r0, r1, r2, r3, hz]) rfl ⟨rfl, ?_⟩
  exact (HB.out.setCell (by exact Nat.le_succ _) _).setCell (by exact Nat.le_succ _) _
set_option maxRecDepth 100000 in
set_option maxHeartbeats 4000000 in
theorem ex10_dot_f184 (w : World) (PB : Nat) (b tb : Nat) (tl l nl : Int) (name : ByteArray) (hn : name.size ≤ 1048576) (hp : w.cell? ⟨PB, 338, none⟩ = some (.bool false)) (hd : Dot w b 184 tb tl name nl) :
    Calls Try.prog 10 #[.pointer (some ⟨PB, 0, none⟩), .agg #[.iface 170 (.pointer (some ⟨b, 0, none⟩)), .int .i32 l]] w (ZeP w) := by
  have HD2 := Lib.hid (hd.below (wit_below w (.iface 170 (.pointer (some ⟨b, 0, none⟩))) l))
  have hpl := block_lt_of_cell hp
  simp only at hpl
  have hp2 := ((wit_below w (.iface 170 (.pointer (some ⟨b, 0, none⟩))) l).cell (p := ⟨PB, 338, none⟩) hpl).trans hp
  unfold wit at hp2
  clear hd
  go_enter Try.func10, Try.ntmps10
  go_wp2_with fail
  refine (ex20_dot_f184 _ PB b tb tl l nl name hn hp2 HD2.out).mono ?_
  rintro e w2 ⟨rfl, hb⟩
  have r0 : w2.cell? ⟨w.heap.size + 1, 0, none⟩ = some .nilIface := (hb.cell (p := ⟨w.heap.size + 1, 0, none⟩) (by simp)).trans (by simp)
  have r1 : w2.cell? ⟨w.heap.size + 1, 1, none⟩ = some (.int .i32 0) := (hb.cell (p := ⟨w.heap.size + 1, 1, none⟩) (by simp)).trans (by simp)
  have r2 : w2.frozen? ⟨w.heap.size + 1, 0, none⟩ = false := (hb.frozen (p := ⟨w.heap.size + 1, 0, none⟩) (by simp)).trans (by simp)
  have r3 : w2.frozen? ⟨w.heap.size + 1, 1, none⟩ = false := (hb.frozen (p := ⟨w.heap.size + 1, 1, none⟩) (by simp)).trans (by simp)
  have hz : w.heap.size + 1 < w2.heap.size := by have := hb.size; simp at this; omega
  have hbb := (wit_below w (.iface 170 (.pointer (some ⟨b, 0, none⟩))) l).trans (hb.mono (by simp; omega))
  have HB := Lib.hid hbb
  clear hb hbb hp2
  go_simp
  go_wp2_with fail
  refine bodyPost_ret (v := .agg #[.nilIface, .int .i32 0]) (by simp [results, Try.results10, go_sem, r0, r1, r2, r3, hz]) rfl ⟨rfl, ?_⟩
  exact (HB.out.setCell (by exact Nat.le_succ _) _).setCell (by exact Nat.le_succ _) _
set_option maxRecDepth 100000 in
set_option maxHeartbeats 4000000 in
theorem ex10_idx_t174 (w : World) (PB : Nat) (b tb ib : Nat) (tl l il : Int) (hp : w.cell? ⟨PB, 338, none⟩ = some (.bool true)) (hd : Idx w b 174 tb tl ib il) :
    Calls Try.prog 10 #[.pointer (some ⟨PB, 0, none⟩), .agg #[.iface 187 (.pointer (some ⟨b, 0, none⟩)), .int .i32 l]] w (IxP ib il w) := by
  have HD2 := Lib.hid (hd.below (wit_below w (.iface 187 (.pointer (some ⟨b, 0, none⟩))) l))
  have hpl := block_lt_of_cell hp
  simp only at hpl
  have hp2 := ((wit_below w (.iface 187 (.pointer (some ⟨b, 0, none⟩))) l).cell (p := ⟨PB, 338, none⟩) hpl).trans hp
  unfold wit at hp2
  clear hd
  go_enter Try.func10, Try.ntmps10
  go_wp2_with fail
  refine (ex20_idx_t174 _ PB b tb ib tl l il hp2 HD2.out).mono ?_
  rintro e w2 ⟨rfl, hb⟩
  have r0 : w2.cell? ⟨w.heap.size + 1, 0, none⟩ = some .nilIface := (hb.cell (p := ⟨w.heap.size + 1, 0, none⟩) (by simp)).trans (by simp)
  have r1 : w2.cell? ⟨w.heap.size + 1, 1, none⟩ = some (.int .i32 0) := (hb.cell (p := ⟨w.heap.size + 1, 1, none⟩) (by simp)).trans (by simp)
  have r2 : w2.frozen? ⟨w.heap.size + 1, 0, none⟩ = false := (hb.frozen (p := ⟨w.heap.size + 1, 0, none⟩) (by simp)).trans (by simp)
  have r3 : w2.frozen? ⟨w.heap.size + 1, 1, none⟩ = false := (hb.frozen (p := ⟨w.heap.size + 1, 1, none⟩) (by simp)).trans (by simp)
  have hz : w.heap.size + 1 < w2.heap.size := by have := hb.size; simp at this; omega
  have hbb := (wit_below w (.iface 187 (.pointer (some ⟨b, 0, none⟩))) l).trans (hb.mono (by simp; omega))
  have HB := Lib.hid hbb
  clear hb hbb hp2
  go_simp
  go_wp2_with fail
  refine bodyPost_ret (v := .agg #[.iface 178 (.pointer (some ⟨ib, 0, none⟩)), .int .i32 il]) (by simp [results, Try.results10, go_sem, r0, r1, r2, r3, hz]) rfl ⟨rfl, ?_⟩
  exact (HB.out.setCell (by exact Nat.le_succ _) _).setCell (by exact Nat.le_succ _) _
set_option maxRecDepth 100000 in
set_option maxHeartbeats 4000000 in
theorem ex10_idx_t184 (w : World) (PB : Nat) (b tb ib : Nat) (tl l il : Int) (hp : w.cell? ⟨PB, 338, none⟩ = some (.bool true)) (hd : Idx w b 184 tb tl ib il) :
    Calls Try.prog 10 #[.pointer (some ⟨PB, 0, none⟩), .agg #[.iface 187 (.pointer (some ⟨b, 0, none⟩)), .int .i32 l]] w (ZeP w) := by
  have HD2 := Lib.hid (hd.below (wit_below w (.iface 187 (.pointer (some ⟨b, 0, none⟩))) l))
  have hpl := block_lt_of_cell hp
  simp only at hpl
  have hp2 := ((wit_below w (.iface 187 (.pointer (some ⟨b, 0, none⟩))) l).cell (p := ⟨PB, 338, none⟩) hpl).trans hp
  unfold wit at hp2
  clear hd
  go_enter Try.func10, Try.ntmps10
  go_wp2_with fail
  refine (ex20_idx_t184 _ PB b tb ib tl l il hp2 HD2.out).mono ?_
  rintro e w2 ⟨rfl, hb⟩
  have r0 : w2.cell? ⟨w.heap.size + 1, 0, none⟩ = some .nilIface := (hb.cell (p := ⟨w.heap.size + 1, 0, none⟩) (by simp)).trans (by simp)
  have r1 : w2.cell? ⟨w.heap.size + 1, 1, none⟩ = some (.int .i32 0) := (hb.cell (p := ⟨w.heap.size + 1, 1, none⟩) (by simp)).trans (by simp)
  have r2 : w2.frozen? ⟨w.heap.size + 1, 0, none⟩ = false := (hb.frozen (p := ⟨w.heap.size + 1, 0, none⟩) (by simp)).trans (by simp)
  have r3 : w2.frozen? ⟨w.heap.size + 1, 1, none⟩ = false := (hb.frozen (p := ⟨w.heap.size + 1, 1, none⟩) (by simp)).trans (by simp)
  have hz : w.heap.size + 1 < w2.heap.size := by have := hb.size; simp at this; omega
  have hbb := (wit_below w (.iface 187 (.pointer (some ⟨b, 0, none⟩))) l).trans (hb.mono (by simp; omega))
  have HB := Lib.hid hbb
  clear hb hbb hp2
  go_simp
  go_wp2_with fail
  refine bodyPost_ret (v := .agg #[.nilIface, .int .i32 0]) (by simp [results, Try.results10, go_sem, r0, r1, r2, r3, hz]) rfl ⟨rfl, ?_⟩
  exact (HB.out.setCell (by exact Nat.le_succ _) _).setCell (by exact Nat.le_succ _) _
set_option maxRecDepth 100000 in
set_option maxHeartbeats 4000000 in
theorem ex10_idx_f174 (w : World) (PB : Nat) (b tb ib : Nat) (tl l il : Int) (hp : w.cell? ⟨PB, 338, none⟩ = some (.bool false)) (hd : Idx w b 174 tb tl ib il) :
    Calls Try.prog 10 #[.pointer (some ⟨PB, 0, none⟩), .agg #[.iface 187 (.pointer (some ⟨b, 0, none⟩)), .int .i32 l]] w (ZeP w) := by
  have HD2 := Lib.hid (hd.below (wit_below w (.iface 187 (.pointer (some ⟨b, 0, none⟩))) l))
  have hpl := block_lt_of_cell hp
  simp only at hpl
  have hp2 := ((wit_below w (.iface 187 (.pointer (some ⟨b, 0, none⟩))) l).cell (p := ⟨PB, 338, none⟩) hpl).trans hp
  unfold wit at hp2
  clear hd
  go_enter Try.func10, Try.ntmps10
  go_wp2_with fail
  refine (ex20_idx_f174 _ PB b tb ib tl l il hp2 HD2.out).mono ?_
  rintro e w2 ⟨rfl, hb⟩
  have r0 : w2.cell? ⟨w.heap.size + 1, 0, none⟩ = some .nilIface := (hb.cell (p := ⟨w.heap.size + 1, 0, none⟩) (by simp)).trans (by simp)
  have r1 : w2.cell? ⟨w.heap.size + 1, 1, none⟩ = some (.int .i32 0) := (hb.cell (p := ⟨w.heap.size + 1, 1, none⟩) (by simp)).trans (by simp)
  have r2 : w2.frozen? ⟨w.heap.size + 1, 0, none⟩ = false := (hb.frozen (p := ⟨w.heap.size + 1, 0, none⟩) (by simp)).trans (by simp)
  have r3 : w2.frozen? ⟨w.heap.size + 1, 1, none⟩ = false := (hb.frozen (p := ⟨w.heap.size + 1, 1, none⟩) (by simp)).trans (by simp)
  have hz : w.heap.size + 1 < w2.heap.size := by have := hb.size; simp at this; omega
  have hbb := (wit_below w (.iface 187 (.pointer (some ⟨b, 0, none⟩))) l).trans (hb.mono (by simp; omega))
  have HB := Lib.hid hbb
  clear hb hbb hp2
  go_simp
  go_wp2_with fail
  refine bodyPost_ret (v := .agg #[.nilIface, .int .i32 0]) (by simp [results, Try.results10, go_sem, r0, r1, r2, r3, hz]) rfl ⟨rfl, ?_⟩
  exact (HB.out.setCell (by exact Nat.le_succ _) _).setCell (by exact Nat.le_succ _) _
set_option maxRecDepth 100000 in
set_option maxHeartbeats 4000000 in
theorem ex10_idx_f184 (w : World) (PB : Nat) (b tb ib : Nat) (tl l il : Int) (hp : w.cell? ⟨PB, 338, none⟩ = some (.bool false)) (hd : Idx w b 184 tb tl ib il) :
    Calls Try.prog 10 #[.pointer (some ⟨PB, 0, none⟩), .agg #[.iface 187 (.pointer (some ⟨b, 0, none⟩)), .int .i32 l]] w (ZeP w) := by
  have HD2 := Lib.hid (hd.below (wit_below w (.iface 187 (.pointer (some ⟨b, 0, none⟩))) l))
  have hpl := block_lt_of_cell hp
  simp only at hpl
  have hp2 := ((wit_below w (.iface 187 (.pointer (some ⟨b, 0, none⟩))) l).cell (p := ⟨PB, 338, none⟩) hpl).trans hp
  unfold wit at hp2
  clear hd
  go_enter Try.func10, Try.ntmps10
  go_wp2_with fail
  refine (ex20_idx_f184 _ PB b tb ib tl l il hp2 HD2.out).mono ?_
  rintro e w2 ⟨rfl, hb⟩
  have r0 : w2.cell? ⟨w.heap.size + 1, 0, none⟩ = some .nilIface := (hb.cell (p := ⟨w.heap.size + 1, 0, none⟩) (by simp)).trans (by simp)
  have r1 : w2.cell? ⟨w.heap.size + 1, 1, none⟩ = some (.int .i32 0) := (hb.cell (p := ⟨w.heap.size + 1, 1, none⟩) (by simp)).trans (by simp)
  have r2 : w2.frozen? ⟨w.heap.size + 1, 0, none⟩ = false := (hb.frozen (p := ⟨w.heap.size + 1, 0, none⟩) (by simp)).trans (by simp)
  have r3 : w2.frozen? ⟨w.heap.size + 1, 1, none⟩ = false := (hb.frozen (p := ⟨w.heap.size + 1, 1, none⟩) (by simp)).trans (by simp)
  have hz : w.heap.size + 1 < w2.heap.size := by have := hb.size; simp at this; omega
  have hbb := (wit_below w (.iface 187 (.pointer (some ⟨b, 0, none⟩))) l).trans (hb.mono (by simp; omega))
  have HB := Lib.hid hbb
  clear hb hbb hp2
  go_simp
  go_wp2_with fail
  refine bodyPost_ret (v := .agg #[.nilIface, .int .i32 0]) (by simp [results, Try.results10, go_sem, r0, r1, r2, r3, hz]) rfl ⟨rfl, ?_⟩
  exact (HB.out.setCell (by exact Nat.le_succ _) _).setCell (by exact Nat.le_succ _) _

def RdP (xs : List Int) (w : World) (e : Ending) (w' : World) : Prop := ∃ a c, e = .returned (.tuple #[.slice a xs.length c, .bool true]) ∧ Row w' a xs.length (fun i => .int .u16 (xs.getD i 0)) ∧ Below w.heap.size w w'
set_option maxRecDepth 100000 in
set_option maxHeartbeats 1000000 in
theorem read11 (w : World) (b : Nat) (l : Int) (xs : List Int) (h : Str w b xs) : Calls Try.prog 11 #[.agg #[.iface 178 (.pointer (some ⟨b, 0, none⟩)), .int .i32 l]] w (RdP xs w) := by
  obtain ⟨v, h0, a, c, rfl, hr⟩ := h
  have hb := block_lt_of_cell h0
  simp only at hb
  have hne : b ≠ w.heap.size := by omega
  have HR := Lib.hid hr
  clear hr
  go_enter Try.func11, Try.ntmps11
  go_wp2_with fail
  go_ret2
  exact ⟨a, c, rfl, HR.out.below ((Below.refl _ _).alloc (Nat.le_refl _) _), (Below.refl _ _).alloc (Nat.le_refl _) _⟩
end Go.Proofs.Ytjhmdagdmclknaa.ut
