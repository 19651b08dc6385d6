/-
  Safe expressions: the flat ones, built.
-/
import Derived.Test.YthhlioepgfjknaaSa
namespace Go.Proofs.Ythhlioepgfjknaa.sf
open Go.ChangeShapes Go.WideShapes Go.ChangeAt Go.RowKit Go.Deep
set_option linter.unusedVariables false
set_option linter.unusedSimpArgs false

def fs (c : Int) : Bool := decide (c % 13 ≤ 6 ∨ c % 13 = 12)
def FlP (P : Nat → Prop) (d : Nat) (w : World) (s : Bool) (e : Ending) (w' : World) : Prop := ∃ T b, e = .returned (.agg #[.iface T (.pointer (some ⟨b, 0, none⟩)), .int .i32 0]) ∧ Sf P w' (d + 1) T b s ∧ Below w.heap.size w w'
theorem info310 : (Try.prog.info? 310).map (fun i => (i.zero.isSome, decide (i.bytes ≤ 100000))) = some (true, true) := by kernel_rfl
theorem mk229 : ∃ C : Obj, ∀ w : World, (Instr.makeSlice 229 (.int .i64 1) (.int .i64 1)).run Try.prog w = .ok (.slice (some ⟨w.heap.size, 0, none⟩) 1 1) (w.alloc C) := by
  obtain ⟨i, hi, hz⟩ := Option.map_eq_some_iff.1 info310
  simp only [Prod.mk.injEq] at hz
  obtain ⟨h1, h2⟩ := hz
  obtain ⟨z, hz⟩ := Option.isSome_iff_exists.1 h1
  have h2 := of_decide_eq_true h2
  refine ⟨.cells (madeCells z.cells (1 * i.size)) 310, fun w => ?_⟩
  have hr := run_make (P := Try.prog) w 229 310 i z Try.underlying229 hi hz .i64 .i64 1 1 (by omega) (by omega) (by omega) (by omega)
  exact hr
set_option maxRecDepth 100000 in
set_option maxHeartbeats 1000000 in
theorem flat33_0 (c : Int) (h0 : 0 ≤ c) (h1 : c < 256) (hc : c % 13 = 0) (w : World) (P : Nat → Prop) (hP : ∀ q, w.heap.size ≤ q → P q) (d : Nat) : Calls Try.prog 33 #[.int .u8 c] w (FlP P d w (fs c)) := by
  have HC := Lib.hid hc
  go_enter Try.func33, Try.ntmps33
  go_wp2_with fail
  refine bodyPost_ret (v := .agg #[.iface 251 (.pointer (some ⟨w.heap.size + 1, 0, none⟩)), .int .i32 0]) (by simp [results, Try.results33, go_sem]) rfl ⟨251, w.heap.size + 1, rfl, ?_, ?_⟩
  · exact .inl (.inl ⟨by simp [leafT], by simp [fs, HC.out]⟩)
  · first | exact ((Below.refl _ _).alloc (Nat.le_refl _) _).alloc (by simp) _ | exact (((Below.refl _ _).alloc (Nat.le_refl _) _).alloc (by simp) _).alloc (by simp; omega) _
set_option maxRecDepth 100000 in
set_option maxHeartbeats 1000000 in
theorem flat33_1 (c : Int) (h0 : 0 ≤ c) (h1 : c < 256) (hc : c % 13 = 1) (w : World) (P : Nat → Prop) (hP : ∀ q, w.heap.size ≤ q → P q) (d : Nat) : Calls Try.prog 33 #[.int .u8 c] w (FlP P d w (fs c)) := by
  have HC := Lib.hid hc
  go_enter Try.func33, Try.ntmps33
  go_wp2_with fail
  refine bodyPost_ret (v := .agg #[.iface 254 (.pointer (some ⟨w.heap.size + 1, 0, none⟩)), .int .i32 0]) (by simp [results, Try.results33, go_sem]) rfl ⟨254, w.heap.size + 1, rfl, ?_, ?_⟩
  · exact .inl (.inl ⟨by simp [leafT], by simp [fs, HC.out]⟩)
  · first | exact ((Below.refl _ _).alloc (Nat.le_refl _) _).alloc (by simp) _ | exact (((Below.refl _ _).alloc (Nat.le_refl _) _).alloc (by simp) _).alloc (by simp; omega) _
set_option maxRecDepth 100000 in
set_option maxHeartbeats 1000000 in
theorem flat33_2 (c : Int) (h0 : 0 ≤ c) (h1 : c < 256) (hc : c % 13 = 2) (w : World) (P : Nat → Prop) (hP : ∀ q, w.heap.size ≤ q → P q) (d : Nat) : Calls Try.prog 33 #[.int .u8 c] w (FlP P d w (fs c)) := by
  have HC := Lib.hid hc
  go_enter Try.func33, Try.ntmps33
  go_wp2_with fail
  refine bodyPost_ret (v := .agg #[.iface 257 (.pointer (some ⟨w.heap.size + 1, 0, none⟩)), .int .i32 0]) (by simp [results, Try.results33, go_sem]) rfl ⟨257, w.heap.size + 1, rfl, ?_, ?_⟩
  · exact .inl (.inl ⟨by simp [leafT], by simp [fs, HC.out]⟩)
  · first | exact ((Below.refl _ _).alloc (Nat.le_refl _) _).alloc (by simp) _ | exact (((Below.refl _ _).alloc (Nat.le_refl _) _).alloc (by simp) _).alloc (by simp; omega) _
set_option maxRecDepth 100000 in
set_option maxHeartbeats 1000000 in
theorem flat33_3 (c : Int) (h0 : 0 ≤ c) (h1 : c < 256) (hc : c % 13 = 3) (w : World) (P : Nat → Prop) (hP : ∀ q, w.heap.size ≤ q → P q) (d : Nat) : Calls Try.prog 33 #[.int .u8 c] w (FlP P d w (fs c)) := by
  have HC := Lib.hid hc
  go_enter Try.func33, Try.ntmps33
  go_wp2_with fail
  refine bodyPost_ret (v := .agg #[.iface 260 (.pointer (some ⟨w.heap.size + 1, 0, none⟩)), .int .i32 0]) (by simp [results, Try.results33, go_sem]) rfl ⟨260, w.heap.size + 1, rfl, ?_, ?_⟩
  · exact .inl (.inl ⟨by simp [leafT], by simp [fs, HC.out]⟩)
  · first | exact ((Below.refl _ _).alloc (Nat.le_refl _) _).alloc (by simp) _ | exact (((Below.refl _ _).alloc (Nat.le_refl _) _).alloc (by simp) _).alloc (by simp; omega) _
set_option maxRecDepth 100000 in
set_option maxHeartbeats 1000000 in
theorem flat33_4 (c : Int) (h0 : 0 ≤ c) (h1 : c < 256) (hc : c % 13 = 4) (w : World) (P : Nat → Prop) (hP : ∀ q, w.heap.size ≤ q → P q) (d : Nat) : Calls Try.prog 33 #[.int .u8 c] w (FlP P d w (fs c)) := by
  have HC := Lib.hid hc
  go_enter Try.func33, Try.ntmps33
  go_wp2_with fail
  refine bodyPost_ret (v := .agg #[.iface 232 (.pointer (some ⟨w.heap.size + 1, 0, none⟩)), .int .i32 0]) (by simp [results, Try.results33, go_sem]) rfl ⟨232, w.heap.size + 1, rfl, ?_, ?_⟩
  · exact .inl (.inl ⟨by simp [leafT], by simp [fs, HC.out]⟩)
  · first | exact ((Below.refl _ _).alloc (Nat.le_refl _) _).alloc (by simp) _ | exact (((Below.refl _ _).alloc (Nat.le_refl _) _).alloc (by simp) _).alloc (by simp; omega) _
set_option maxRecDepth 100000 in
set_option maxHeartbeats 1000000 in
theorem flat33_5 (c : Int) (h0 : 0 ≤ c) (h1 : c < 256) (hc : c % 13 = 5) (w : World) (P : Nat → Prop) (hP : ∀ q, w.heap.size ≤ q → P q) (d : Nat) : Calls Try.prog 33 #[.int .u8 c] w (FlP P d w (fs c)) := by
  have HC := Lib.hid hc
  go_enter Try.func33, Try.ntmps33
  go_wp2_with fail
  refine bodyPost_ret (v := .agg #[.iface 244 (.pointer (some ⟨w.heap.size + 1, 0, none⟩)), .int .i32 0]) (by simp [results, Try.results33, go_sem]) rfl ⟨244, w.heap.size + 1, rfl, ?_, ?_⟩
  · exact .inl (.inl ⟨by simp [leafT], by simp [fs, HC.out]⟩)
  · first | exact ((Below.refl _ _).alloc (Nat.le_refl _) _).alloc (by simp) _ | exact (((Below.refl _ _).alloc (Nat.le_refl _) _).alloc (by simp) _).alloc (by simp; omega) _
set_option maxRecDepth 100000 in
set_option maxHeartbeats 1000000 in
theorem flat33_6 (c : Int) (h0 : 0 ≤ c) (h1 : c < 256) (hc : c % 13 = 6) (w : World) (P : Nat → Prop) (hP : ∀ q, w.heap.size ≤ q → P q) (d : Nat) : Calls Try.prog 33 #[.int .u8 c] w (FlP P d w (fs c)) := by
  have HC := Lib.hid hc
  go_enter Try.func33, Try.ntmps33
  go_wp2_with fail
  refine bodyPost_ret (v := .agg #[.iface 228 (.pointer (some ⟨w.heap.size + 1, 0, none⟩)), .int .i32 0]) (by simp [results, Try.results33, go_sem]) rfl ⟨228, w.heap.size + 1, rfl, ?_, ?_⟩
  · exact .inl (.inr (.inr ⟨rfl, hP _ (by omega), none, 0, 0, by simp, by simp [fs, HC.out]⟩))
  · first | exact ((Below.refl _ _).alloc (Nat.le_refl _) _).alloc (by simp) _ | exact (((Below.refl _ _).alloc (Nat.le_refl _) _).alloc (by simp) _).alloc (by simp; omega) _
set_option maxRecDepth 100000 in
set_option maxHeartbeats 1000000 in
theorem flat33_7 (c : Int) (h0 : 0 ≤ c) (h1 : c < 256) (hc : c % 13 = 7) (w : World) (P : Nat → Prop) (hP : ∀ q, w.heap.size ≤ q → P q) (d : Nat) : Calls Try.prog 33 #[.int .u8 c] w (FlP P d w (fs c)) := by
  have HC := Lib.hid hc
  obtain ⟨C7, h7⟩ := mk229
  go_enter Try.func33, Try.ntmps33
  go_wp2_with fail
  refine bodyPost_ret (v := .agg #[.iface 228 (.pointer (some ⟨w.heap.size + 1 + 1, 0, none⟩)), .int .i32 0]) (by simp [results, Try.results33, go_sem]) rfl ⟨228, w.heap.size + 1 + 1, rfl, ?_, ?_⟩
  · exact .inl (.inr (.inr ⟨rfl, hP _ (by omega), some ⟨w.heap.size + 1, 0, none⟩, 1, 1, by have h := fun A B => heap_alloc_new ((w.alloc A).alloc C7) B; exact (cell_of_row _ (w.heap.size + 1 + 1) 0 _ _ _ (by simpa using h _ _)).trans rfl, by simp [fs, HC.out]⟩))
  · first | exact ((Below.refl _ _).alloc (Nat.le_refl _) _).alloc (by simp) _ | exact (((Below.refl _ _).alloc (Nat.le_refl _) _).alloc (by simp) _).alloc (by simp; omega) _
set_option maxRecDepth 100000 in
set_option maxHeartbeats 1000000 in
theorem flat33_8 (c : Int) (h0 : 0 ≤ c) (h1 : c < 256) (hc : c % 13 = 8) (w : World) (P : Nat → Prop) (hP : ∀ q, w.heap.size ≤ q → P q) (d : Nat) : Calls Try.prog 33 #[.int .u8 c] w (FlP P d w (fs c)) := by
  have HC := Lib.hid hc
  go_enter Try.func33, Try.ntmps33
  go_wp2_with fail
  refine bodyPost_ret (v := .agg #[.iface 42 (.pointer (some ⟨w.heap.size + 1, 0, none⟩)), .int .i32 0]) (by simp [results, Try.results33, go_sem]) rfl ⟨42, w.heap.size + 1, rfl, ?_, ?_⟩
  · exact .inl (.inr (.inl ⟨by simp [noT], by simp [fs, HC.out]⟩))
  · first | exact ((Below.refl _ _).alloc (Nat.le_refl _) _).alloc (by simp) _ | exact (((Below.refl _ _).alloc (Nat.le_refl _) _).alloc (by simp) _).alloc (by simp; omega) _
set_option maxRecDepth 100000 in
set_option maxHeartbeats 1000000 in
theorem flat33_9 (c : Int) (h0 : 0 ≤ c) (h1 : c < 256) (hc : c % 13 = 9) (w : World) (P : Nat → Prop) (hP : ∀ q, w.heap.size ≤ q → P q) (d : Nat) : Calls Try.prog 33 #[.int .u8 c] w (FlP P d w (fs c)) := by
  have HC := Lib.hid hc
  go_enter Try.func33, Try.ntmps33
  go_wp2_with fail
  refine bodyPost_ret (v := .agg #[.iface 79 (.pointer (some ⟨w.heap.size + 1, 0, none⟩)), .int .i32 0]) (by simp [results, Try.results33, go_sem]) rfl ⟨79, w.heap.size + 1, rfl, ?_, ?_⟩
  · exact .inl (.inr (.inl ⟨by simp [noT], by simp [fs, HC.out]⟩))
  · first | exact ((Below.refl _ _).alloc (Nat.le_refl _) _).alloc (by simp) _ | exact (((Below.refl _ _).alloc (Nat.le_refl _) _).alloc (by simp) _).alloc (by simp; omega) _
set_option maxRecDepth 100000 in
set_option maxHeartbeats 1000000 in
theorem flat33_10 (c : Int) (h0 : 0 ≤ c) (h1 : c < 256) (hc : c % 13 = 10) (w : World) (P : Nat → Prop) (hP : ∀ q, w.heap.size ≤ q → P q) (d : Nat) : Calls Try.prog 33 #[.int .u8 c] w (FlP P d w (fs c)) := by
  have HC := Lib.hid hc
  go_enter Try.func33, Try.ntmps33
  go_wp2_with fail
  refine bodyPost_ret (v := .agg #[.iface 262 (.pointer (some ⟨w.heap.size + 1, 0, none⟩)), .int .i32 0]) (by simp [results, Try.results33, go_sem]) rfl ⟨262, w.heap.size + 1, rfl, ?_, ?_⟩
  · exact .inl (.inr (.inl ⟨by simp [noT], by simp [fs, HC.out]⟩))
  · first | exact ((Below.refl _ _).alloc (Nat.le_refl _) _).alloc (by simp) _ | exact (((Below.refl _ _).alloc (Nat.le_refl _) _).alloc (by simp) _).alloc (by simp; omega) _
set_option maxRecDepth 100000 in
set_option maxHeartbeats 1000000 in
theorem flat33_11 (c : Int) (h0 : 0 ≤ c) (h1 : c < 256) (hc : c % 13 = 11) (w : World) (P : Nat → Prop) (hP : ∀ q, w.heap.size ≤ q → P q) (d : Nat) : Calls Try.prog 33 #[.int .u8 c] w (FlP P d w (fs c)) := by
  have HC := Lib.hid hc
  go_enter Try.func33, Try.ntmps33
  go_wp2_with fail
  refine bodyPost_ret (v := .agg #[.iface 264 (.pointer (some ⟨w.heap.size + 1, 0, none⟩)), .int .i32 0]) (by simp [results, Try.results33, go_sem]) rfl ⟨264, w.heap.size + 1, rfl, ?_, ?_⟩
  · exact .inl (.inr (.inl ⟨by simp [noT], by simp [fs, HC.out]⟩))
  · first | exact ((Below.refl _ _).alloc (Nat.le_refl _) _).alloc (by simp) _ | exact (((Below.refl _ _).alloc (Nat.le_refl _) _).alloc (by simp) _).alloc (by simp; omega) _
set_option maxRecDepth 100000 in
set_option maxHeartbeats 1000000 in
theorem flat33_12 (c : Int) (h0 : 0 ≤ c) (h1 : c < 256) (hc : c % 13 = 12) (w : World) (P : Nat → Prop) (hP : ∀ q, w.heap.size ≤ q → P q) (d : Nat) : Calls Try.prog 33 #[.int .u8 c] w (FlP P d w (fs c)) := by
  have HC := Lib.hid hc
  go_enter Try.func33, Try.ntmps33
  go_wp2_with fail
  refine bodyPost_ret (v := .agg #[.iface 200 (.pointer (some ⟨w.heap.size + 1, 0, none⟩)), .int .i32 0]) (by simp [results, Try.results33, go_sem]) rfl ⟨200, w.heap.size + 1, rfl, ?_, ?_⟩
  · exact .inr ⟨rfl, hP _ (by omega), none, 0, 0, fun _ => true, by simp, by omega, fun h => by omega, by simp [fs, HC.out]⟩
  · first | exact ((Below.refl _ _).alloc (Nat.le_refl _) _).alloc (by simp) _ | exact (((Below.refl _ _).alloc (Nat.le_refl _) _).alloc (by simp) _).alloc (by simp; omega) _
theorem flat33 (c : Int) (h0 : 0 ≤ c) (h1 : c < 256) (w : World) (P : Nat → Prop) (hP : ∀ q, w.heap.size ≤ q → P q) (d : Nat) : Calls Try.prog 33 #[.int .u8 c] w (FlP P d w (fs c)) := by
  have h : c % 13 = 0 ∨ c % 13 = 1 ∨ c % 13 = 2 ∨ c % 13 = 3 ∨ c % 13 = 4 ∨ c % 13 = 5 ∨ c % 13 = 6 ∨ c % 13 = 7 ∨ c % 13 = 8 ∨ c % 13 = 9 ∨ c % 13 = 10 ∨ c % 13 = 11 ∨ c % 13 = 12 := by omega
  rcases h with h | h | h | h | h | h | h | h | h | h | h | h | h
  · exact flat33_0 c h0 h1 h w P hP d
  · exact flat33_1 c h0 h1 h w P hP d
  · exact flat33_2 c h0 h1 h w P hP d
  · exact flat33_3 c h0 h1 h w P hP d
  · exact flat33_4 c h0 h1 h w P hP d
  · exact flat33_5 c h0 h1 h w P hP d
  · exact flat33_6 c h0 h1 h w P hP d
  · exact flat33_7 c h0 h1 h w P hP d
  · exact flat33_8 c h0 h1 h w P hP d
  · exact flat33_9 c h0 h1 h w P hP d
  · exact flat33_10 c h0 h1 h w P hP d
  · exact flat33_11 c h0 h1 h w P hP d
  · exact flat33_12 c h0 h1 h w P hP d
end Go.Proofs.Ythhlioepgfjknaa.sf
