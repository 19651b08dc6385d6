/-
  The messages' row: comparison and exchange, walked.
-/
import Derived.Test.YtfnicbfdfceagaaFmtLw
namespace Go.Proofs.YtfnicbfdfceagaaFmt.lg
open Go.ChangeShapes Go.WideShapes Go.ChangeAt Go.RowKit Go.Deep
set_option linter.unusedVariables false
set_option linter.unusedSimpArgs false
set_option maxRecDepth 100000
set_option maxHeartbeats 4000000
/-- The cells of message m at place i of row rb. -/
structure At (w : World) (rb i : Nat) (m : Ms) : Prop where
  c0 : w.cell? ⟨rb, i * 8, none⟩ = some (.slice none 0 0)
  c1 : w.cell? ⟨rb, i * 8 + 1, none⟩ = some str0
  c2 : w.cell? ⟨rb, i * 8 + 2, none⟩ = some .nilIface
  c3 : w.cell? ⟨rb, i * 8 + 3, none⟩ = some (ptr m.g 0)
  c4 : w.cell? ⟨rb, i * 8 + 4, none⟩ = some (.string m.txt)
  c5 : w.cell? ⟨rb, i * 8 + 5, none⟩ = some (.bool false)
  c6 : w.cell? ⟨rb, i * 8 + 6, none⟩ = some (.int .u8 0)
  c7 : w.cell? ⟨rb, i * 8 + 7, none⟩ = some (.int .u8 0)
/-- The row holds the messages M. -/
structure RowM (w : World) (rb : Nat) (M : List Ms) : Prop where
  c : ∀ i (h : i < M.length), At w rb i M[i]
  z : ∀ q, w.frozen? ⟨rb, q, none⟩ = false
theorem At.of_block {w w' : World} {rb i : Nat} {m : Ms} (h : At w rb i m) (e : w'.heap[rb]? = w.heap[rb]?) : At w' rb i m := by
  have k : ∀ q, w'.cell? ⟨rb, q, none⟩ = w.cell? ⟨rb, q, none⟩ := fun q => World.cell?_of_block (a := ⟨rb, q, none⟩) e
  exact ⟨(k _).trans h.c0, (k _).trans h.c1, (k _).trans h.c2, (k _).trans h.c3, (k _).trans h.c4, (k _).trans h.c5, (k _).trans h.c6, (k _).trans h.c7⟩
theorem RowM.of_block {w w' : World} {rb : Nat} {M : List Ms} (h : RowM w rb M) (e : w'.heap[rb]? = w.heap[rb]?) : RowM w' rb M :=
  ⟨fun i hi => (h.c i hi).of_block e, fun q => (World.frozen?_of_block (a := ⟨rb, q, none⟩) e).trans (h.z q)⟩
theorem less101 (w : World) (rb n cap : Nat) (i j : Nat) (m1 m2 : Ms) (hi : i < n) (hj : j < n) (hn : n ≤ 1048576) (a1 : At w rb i m1) (a2 : At w rb j m2) (l1 : LocOk w m1.g m1.len) (l2 : LocOk w m2.g m2.len) :
    Calls Tryf.prog 101 #[sl (some ⟨rb, 0, none⟩) n cap, i64 i, i64 j] w fun e w' => (∃ b, e = .returned (.bool b)) ∧ Touch (fun _ => False) w w' := by
  obtain ⟨p0, p1, p2, p3, p4, p5, p6, p7⟩ := a1
  obtain ⟨r0, r1, r2, r3, r4, r5, r6, r7⟩ := a2
  have hrb : rb < w.heap.size := block_lt_of_cell p0
  have L1 := Lib.hid l1
  have L2 := Lib.hid l2
  have g1 := l1.lt
  have g2 := l2.lt
  clear l1 l2
  go_enter Tryf.func101, Tryf.ntmps101
  go_upto_region 7 with fail
  have HT := Lib.hid (show Touch (fun _ => False) w ((w.alloc (.cells #[.slice none 0 0, str0, .nilIface, ptr m1.g 0, .string m1.txt, .bool false, .int .u8 0, .int .u8 0] 178)).alloc (.cells #[.slice none 0 0, str0, .nilIface, ptr m2.g 0, .string m2.txt, .bool false, .int .u8 0, .int .u8 0] 178)) from ((Touch.refl _ w).alloc _).alloc _)
  have hx := heap_alloc_new w (.cells #[.slice none 0 0, str0, .nilIface, ptr m1.g 0, .string m1.txt, .bool false, .int .u8 0, .int .u8 0] 178)
  have hx' := (Below.heap_alloc (w.alloc (.cells #[.slice none 0 0, str0, .nilIface, ptr m1.g 0, .string m1.txt, .bool false, .int .u8 0, .int .u8 0] 178)) (.cells #[.slice none 0 0, str0, .nilIface, ptr m2.g 0, .string m2.txt, .bool false, .int .u8 0, .int .u8 0] 178) w.heap.size (by simp)).trans hx
  have hy := heap_alloc_new (w.alloc (.cells #[.slice none 0 0, str0, .nilIface, ptr m1.g 0, .string m1.txt, .bool false, .int .u8 0, .int .u8 0] 178)) (.cells #[.slice none 0 0, str0, .nilIface, ptr m2.g 0, .string m2.txt, .bool false, .int .u8 0, .int .u8 0] 178)
  rw [show (w.alloc (.cells #[.slice none 0 0, str0, .nilIface, ptr m1.g 0, .string m1.txt, .bool false, .int .u8 0, .int .u8 0] 178)).heap.size = w.heap.size + 1 by simp] at hy
  clear hx p0 p1 p2 p3 p4 p5 p6 p7 r0 r1 r2 r3 r4 r5 r6 r7
  have K1 := L1.out.of_block (HT.out.block m1.g g1 id)
  have K2 := L2.out.of_block (HT.out.block m2.g g2 id)
  obtain ⟨N, hN⟩ : ∃ N, w.heap.size = N := ⟨_, rfl⟩
  rw [hN] at hx' hy ⊢
  generalize ((w.alloc (.cells #[.slice none 0 0, str0, .nilIface, ptr m1.g 0, .string m1.txt, .bool false, .int .u8 0, .int .u8 0] 178)).alloc (.cells #[.slice none 0 0, str0, .nilIface, ptr m2.g 0, .string m2.txt, .bool false, .int .u8 0, .int .u8 0] 178)) = W1 at *
  have x4 : W1.cell? ⟨N, 4, none⟩ = some (.string m1.txt) := by rw [cell_of_row W1 _ 4 _ _ _ hx']; rfl
  have x6 : W1.cell? ⟨N, 6, none⟩ = some (.int .u8 0) := by rw [cell_of_row W1 _ 6 _ _ _ hx']; rfl
  have y4 : W1.cell? ⟨N + 1, 4, none⟩ = some (.string m2.txt) := by rw [cell_of_row W1 _ 4 _ _ _ hy]; rfl
  have y6 : W1.cell? ⟨N + 1, 6, none⟩ = some (.int .u8 0) := by rw [cell_of_row W1 _ 6 _ _ _ hy]; rfl
  obtain ⟨ln1, cl1, u0, u1, u5, u6, -⟩ := K1
  obtain ⟨ln2, cl2, v0, v1, v5, v6, -⟩ := K2
  have hneq : ∀ w, (binOp .neq 45 (.agg #[str0, str0]) (.agg #[str0, str0])).run Tryf.prog w = .ok (.bool false) w := fun w => by kernel_rfl
  clear hx' hy g1 g2 hrb hN
  go_quiet (fail)
  go_upto_region 9 with fail
  go_quiet (fail)
  by_cases hln : ln1 = ln2
  · have q1 : (ln1 != ln2) = false := by simp; exact hln
    go_upto_region 11 with fail
    go_quiet (fail)
    by_cases hcl : cl1 = cl2
    · have q2 : (cl1 != cl2) = false := by simp; exact hcl
      go_wp2_with fail
      go_ret
      first | exact ⟨⟨_, rfl⟩, tdN HT.out _⟩ | exact ⟨⟨_, rfl⟩, tdN (tdN HT.out _) _⟩ | exact ⟨⟨_, rfl⟩, tdN (tdN (tdN HT.out _) _) _⟩ | exact ⟨⟨_, rfl⟩, tdN (tdN (tdN (tdN HT.out _) _) _) _⟩
    · have q2 : (cl1 != cl2) = true := by simp; exact hcl
      go_upto_region 12 with fail
      go_quiet (fail)
      go_wp2_with fail
      go_ret
      first | exact ⟨⟨_, rfl⟩, tdN HT.out _⟩ | exact ⟨⟨_, rfl⟩, tdN (tdN HT.out _) _⟩ | exact ⟨⟨_, rfl⟩, tdN (tdN (tdN HT.out _) _) _⟩ | exact ⟨⟨_, rfl⟩, tdN (tdN (tdN (tdN HT.out _) _) _) _⟩
  · have q1 : (ln1 != ln2) = true := by simp; exact hln
    go_upto_region 10 with fail
    go_quiet (fail)
    go_wp2_with fail
    go_ret
    first | exact ⟨⟨_, rfl⟩, tdN HT.out _⟩ | exact ⟨⟨_, rfl⟩, tdN (tdN HT.out _) _⟩ | exact ⟨⟨_, rfl⟩, tdN (tdN (tdN HT.out _) _) _⟩ | exact ⟨⟨_, rfl⟩, tdN (tdN (tdN (tdN HT.out _) _) _) _⟩
/-- Message m laid at place i. -/
def putM (w : World) (rb i : Nat) (m : Ms) : World :=
  (((((((w.setCell ⟨rb, i * 8, none⟩ (.slice none 0 0)).setCell ⟨rb, i * 8 + 1, none⟩ str0).setCell ⟨rb, i * 8 + 2, none⟩ .nilIface).setCell ⟨rb, i * 8 + 3, none⟩ (ptr m.g 0)).setCell ⟨rb, i * 8 + 4, none⟩ (.string m.txt)).setCell ⟨rb, i * 8 + 5, none⟩ (.bool false)).setCell ⟨rb, i * 8 + 6, none⟩ (.int .u8 0)).setCell ⟨rb, i * 8 + 7, none⟩ (.int .u8 0)
theorem putM_touch (w : World) (rb i : Nat) (m : Ms) : Touch (fun k => k = rb) w (putM w rb i m) := by
  unfold putM
  exact ((((((((Touch.refl (fun k => k = rb) w).setCell ⟨rb, i * 8, none⟩ (fun _ => rfl) (.slice none 0 0)).setCell ⟨rb, i * 8 + 1, none⟩ (fun _ => rfl) (str0)).setCell ⟨rb, i * 8 + 2, none⟩ (fun _ => rfl) (.nilIface)).setCell ⟨rb, i * 8 + 3, none⟩ (fun _ => rfl) (ptr m.g 0)).setCell ⟨rb, i * 8 + 4, none⟩ (fun _ => rfl) (.string m.txt)).setCell ⟨rb, i * 8 + 5, none⟩ (fun _ => rfl) (.bool false)).setCell ⟨rb, i * 8 + 6, none⟩ (fun _ => rfl) (.int .u8 0)).setCell ⟨rb, i * 8 + 7, none⟩ (fun _ => rfl) (.int .u8 0)
theorem putM_row {w : World} {rb : Nat} {M : List Ms} (h : RowM w rb M) (i : Nat) (hi : i < M.length) (m : Ms) : RowM (putM w rb i m) rb (M.set i m) := by
  have a := h.c i hi
  refine ⟨fun j hj => ?_, fun q => ?_⟩
  · rw [List.length_set] at hj
    by_cases e : i = j
    · subst e
      rw [List.getElem_set_self]
      unfold putM
      exact ⟨by rw [World.cell?_setCell_other _ ⟨rb, i * 8 + 7, none⟩ ⟨rb, i * 8, none⟩ _ (off_ne (by omega)), World.cell?_setCell_other _ ⟨rb, i * 8 + 6, none⟩ ⟨rb, i * 8, none⟩ _ (off_ne (by omega)), World.cell?_setCell_other _ ⟨rb, i * 8 + 5, none⟩ ⟨rb, i * 8, none⟩ _ (off_ne (by omega)), World.cell?_setCell_other _ ⟨rb, i * 8 + 4, none⟩ ⟨rb, i * 8, none⟩ _ (off_ne (by omega)), World.cell?_setCell_other _ ⟨rb, i * 8 + 3, none⟩ ⟨rb, i * 8, none⟩ _ (off_ne (by omega)), World.cell?_setCell_other _ ⟨rb, i * 8 + 2, none⟩ ⟨rb, i * 8, none⟩ _ (off_ne (by omega)), World.cell?_setCell_other _ ⟨rb, i * 8 + 1, none⟩ ⟨rb, i * 8, none⟩ _ (off_ne (by omega))]; exact World.cell?_setCell_same _ _ _ a.c0,
        by rw [World.cell?_setCell_other _ ⟨rb, i * 8 + 7, none⟩ ⟨rb, i * 8 + 1, none⟩ _ (off_ne (by omega)), World.cell?_setCell_other _ ⟨rb, i * 8 + 6, none⟩ ⟨rb, i * 8 + 1, none⟩ _ (off_ne (by omega)), World.cell?_setCell_other _ ⟨rb, i * 8 + 5, none⟩ ⟨rb, i * 8 + 1, none⟩ _ (off_ne (by omega)), World.cell?_setCell_other _ ⟨rb, i * 8 + 4, none⟩ ⟨rb, i * 8 + 1, none⟩ _ (off_ne (by omega)), World.cell?_setCell_other _ ⟨rb, i * 8 + 3, none⟩ ⟨rb, i * 8 + 1, none⟩ _ (off_ne (by omega)), World.cell?_setCell_other _ ⟨rb, i * 8 + 2, none⟩ ⟨rb, i * 8 + 1, none⟩ _ (off_ne (by omega))]; exact World.cell?_setCell_same _ _ _ (by rw [World.cell?_setCell_other _ ⟨rb, i * 8, none⟩ ⟨rb, i * 8 + 1, none⟩ _ (off_ne (by omega))]; exact a.c1),
        by rw [World.cell?_setCell_other _ ⟨rb, i * 8 + 7, none⟩ ⟨rb, i * 8 + 2, none⟩ _ (off_ne (by omega)), World.cell?_setCell_other _ ⟨rb, i * 8 + 6, none⟩ ⟨rb, i * 8 + 2, none⟩ _ (off_ne (by omega)), World.cell?_setCell_other _ ⟨rb, i * 8 + 5, none⟩ ⟨rb, i * 8 + 2, none⟩ _ (off_ne (by omega)), World.cell?_setCell_other _ ⟨rb, i * 8 + 4, none⟩ ⟨rb, i * 8 + 2, none⟩ _ (off_ne (by omega)), World.cell?_setCell_other _ ⟨rb, i * 8 + 3, none⟩ ⟨rb, i * 8 + 2, none⟩ _ (off_ne (by omega))]; exact World.cell?_setCell_same _ _ _ (by rw [World.cell?_setCell_other _ ⟨rb, i * 8 + 1, none⟩ ⟨rb, i * 8 + 2, none⟩ _ (off_ne (by omega)), World.cell?_setCell_other _ ⟨rb, i * 8, none⟩ ⟨rb, i * 8 + 2, none⟩ _ (off_ne (by omega))]; exact a.c2),
        by rw [World.cell?_setCell_other _ ⟨rb, i * 8 + 7, none⟩ ⟨rb, i * 8 + 3, none⟩ _ (off_ne (by omega)), World.cell?_setCell_other _ ⟨rb, i * 8 + 6, none⟩ ⟨rb, i * 8 + 3, none⟩ _ (off_ne (by omega)), World.cell?_setCell_other _ ⟨rb, i * 8 + 5, none⟩ ⟨rb, i * 8 + 3, none⟩ _ (off_ne (by omega)), World.cell?_setCell_other _ ⟨rb, i * 8 + 4, none⟩ ⟨rb, i * 8 + 3, none⟩ _ (off_ne (by omega))]; exact World.cell?_setCell_same _ _ _ (by rw [World.cell?_setCell_other _ ⟨rb, i * 8 + 2, none⟩ ⟨rb, i * 8 + 3, none⟩ _ (off_ne (by omega)), World.cell?_setCell_other _ ⟨rb, i * 8 + 1, none⟩ ⟨rb, i * 8 + 3, none⟩ _ (off_ne (by omega)), World.cell?_setCell_other _ ⟨rb, i * 8, none⟩ ⟨rb, i * 8 + 3, none⟩ _ (off_ne (by omega))]; exact a.c3),
        by rw [World.cell?_setCell_other _ ⟨rb, i * 8 + 7, none⟩ ⟨rb, i * 8 + 4, none⟩ _ (off_ne (by omega)), World.cell?_setCell_other _ ⟨rb, i * 8 + 6, none⟩ ⟨rb, i * 8 + 4, none⟩ _ (off_ne (by omega)), World.cell?_setCell_other _ ⟨rb, i * 8 + 5, none⟩ ⟨rb, i * 8 + 4, none⟩ _ (off_ne (by omega))]; exact World.cell?_setCell_same _ _ _ (by rw [World.cell?_setCell_other _ ⟨rb, i * 8 + 3, none⟩ ⟨rb, i * 8 + 4, none⟩ _ (off_ne (by omega)), World.cell?_setCell_other _ ⟨rb, i * 8 + 2, none⟩ ⟨rb, i * 8 + 4, none⟩ _ (off_ne (by omega)), World.cell?_setCell_other _ ⟨rb, i * 8 + 1, none⟩ ⟨rb, i * 8 + 4, none⟩ _ (off_ne (by omega)), World.cell?_setCell_other _ ⟨rb, i * 8, none⟩ ⟨rb, i * 8 + 4, none⟩ _ (off_ne (by omega))]; exact a.c4),
        by rw [World.cell?_setCell_other _ ⟨rb, i * 8 + 7, none⟩ ⟨rb, i * 8 + 5, none⟩ _ (off_ne (by omega)), World.cell?_setCell_other _ ⟨rb, i * 8 + 6, none⟩ ⟨rb, i * 8 + 5, none⟩ _ (off_ne (by omega))]; exact World.cell?_setCell_same _ _ _ (by rw [World.cell?_setCell_other _ ⟨rb, i * 8 + 4, none⟩ ⟨rb, i * 8 + 5, none⟩ _ (off_ne (by omega)), World.cell?_setCell_other _ ⟨rb, i * 8 + 3, none⟩ ⟨rb, i * 8 + 5, none⟩ _ (off_ne (by omega)), World.cell?_setCell_other _ ⟨rb, i * 8 + 2, none⟩ ⟨rb, i * 8 + 5, none⟩ _ (off_ne (by omega)), World.cell?_setCell_other _ ⟨rb, i * 8 + 1, none⟩ ⟨rb, i * 8 + 5, none⟩ _ (off_ne (by omega)), World.cell?_setCell_other _ ⟨rb, i * 8, none⟩ ⟨rb, i * 8 + 5, none⟩ _ (off_ne (by omega))]; exact a.c5),
        by rw [World.cell?_setCell_other _ ⟨rb, i * 8 + 7, none⟩ ⟨rb, i * 8 + 6, none⟩ _ (off_ne (by omega))]; exact World.cell?_setCell_same _ _ _ (by rw [World.cell?_setCell_other _ ⟨rb, i * 8 + 5, none⟩ ⟨rb, i * 8 + 6, none⟩ _ (off_ne (by omega)), World.cell?_setCell_other _ ⟨rb, i * 8 + 4, none⟩ ⟨rb, i * 8 + 6, none⟩ _ (off_ne (by omega)), World.cell?_setCell_other _ ⟨rb, i * 8 + 3, none⟩ ⟨rb, i * 8 + 6, none⟩ _ (off_ne (by omega)), World.cell?_setCell_other _ ⟨rb, i * 8 + 2, none⟩ ⟨rb, i * 8 + 6, none⟩ _ (off_ne (by omega)), World.cell?_setCell_other _ ⟨rb, i * 8 + 1, none⟩ ⟨rb, i * 8 + 6, none⟩ _ (off_ne (by omega)), World.cell?_setCell_other _ ⟨rb, i * 8, none⟩ ⟨rb, i * 8 + 6, none⟩ _ (off_ne (by omega))]; exact a.c6),
        by exact World.cell?_setCell_same _ _ _ (by rw [World.cell?_setCell_other _ ⟨rb, i * 8 + 6, none⟩ ⟨rb, i * 8 + 7, none⟩ _ (off_ne (by omega)), World.cell?_setCell_other _ ⟨rb, i * 8 + 5, none⟩ ⟨rb, i * 8 + 7, none⟩ _ (off_ne (by omega)), World.cell?_setCell_other _ ⟨rb, i * 8 + 4, none⟩ ⟨rb, i * 8 + 7, none⟩ _ (off_ne (by omega)), World.cell?_setCell_other _ ⟨rb, i * 8 + 3, none⟩ ⟨rb, i * 8 + 7, none⟩ _ (off_ne (by omega)), World.cell?_setCell_other _ ⟨rb, i * 8 + 2, none⟩ ⟨rb, i * 8 + 7, none⟩ _ (off_ne (by omega)), World.cell?_setCell_other _ ⟨rb, i * 8 + 1, none⟩ ⟨rb, i * 8 + 7, none⟩ _ (off_ne (by omega)), World.cell?_setCell_other _ ⟨rb, i * 8, none⟩ ⟨rb, i * 8 + 7, none⟩ _ (off_ne (by omega))]; exact a.c7)⟩
    · rw [List.getElem_set_ne e]
      have b := h.c j hj
      have f : ∀ q, q < 8 → (putM w rb i m).cell? ⟨rb, j * 8 + q, none⟩ = w.cell? ⟨rb, j * 8 + q, none⟩ := fun q hq => by
        unfold putM
        rw [World.cell?_setCell_other _ ⟨rb, i * 8 + 7, none⟩ ⟨rb, j * 8 + q, none⟩ _ (off_ne (by omega)), World.cell?_setCell_other _ ⟨rb, i * 8 + 6, none⟩ ⟨rb, j * 8 + q, none⟩ _ (off_ne (by omega)), World.cell?_setCell_other _ ⟨rb, i * 8 + 5, none⟩ ⟨rb, j * 8 + q, none⟩ _ (off_ne (by omega)), World.cell?_setCell_other _ ⟨rb, i * 8 + 4, none⟩ ⟨rb, j * 8 + q, none⟩ _ (off_ne (by omega)), World.cell?_setCell_other _ ⟨rb, i * 8 + 3, none⟩ ⟨rb, j * 8 + q, none⟩ _ (off_ne (by omega)), World.cell?_setCell_other _ ⟨rb, i * 8 + 2, none⟩ ⟨rb, j * 8 + q, none⟩ _ (off_ne (by omega)), World.cell?_setCell_other _ ⟨rb, i * 8 + 1, none⟩ ⟨rb, j * 8 + q, none⟩ _ (off_ne (by omega)), World.cell?_setCell_other _ ⟨rb, i * 8, none⟩ ⟨rb, j * 8 + q, none⟩ _ (off_ne (by omega))]
      have f0 := f 0 (by omega)
      exact ⟨f0.trans b.c0, (f 1 (by omega)).trans b.c1, (f 2 (by omega)).trans b.c2, (f 3 (by omega)).trans b.c3, (f 4 (by omega)).trans b.c4, (f 5 (by omega)).trans b.c5, (f 6 (by omega)).trans b.c6, (f 7 (by omega)).trans b.c7⟩
  · unfold putM
    rw [World.frozen?_setCell, World.frozen?_setCell, World.frozen?_setCell, World.frozen?_setCell, World.frozen?_setCell, World.frozen?_setCell, World.frozen?_setCell, World.frozen?_setCell]
    exact h.z q
end Go.Proofs.YtfnicbfdfceagaaFmt.lg
