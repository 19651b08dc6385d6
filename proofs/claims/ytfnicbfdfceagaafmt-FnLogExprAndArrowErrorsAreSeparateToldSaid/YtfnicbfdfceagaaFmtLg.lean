/-
  The log: its state in memory and the closure that adds a message.
-/
import Derived.Test.YtfnicbfdfceagaaFmtLm
import Derived.Defers
import Derived.Conc.MuLone
import Derived.Deep.AppendLies
namespace Go.Proofs.YtfnicbfdfceagaaFmt.lg
open Go.ChangeShapes Go.WideShapes Go.ChangeAt Go.RowKit Go.Deep Go.MuLone
set_option linter.unusedVariables false
set_option linter.unusedSimpArgs false
set_option maxRecDepth 100000
set_option maxHeartbeats 4000000
/-- A message: the block of its location, its text, its length. -/
structure Ms where
  g : Nat
  txt : ByteArray
  len : Int
abbrev Ms.val (m : Ms) : Value := .agg #[.slice none 0 0, str0, .nilIface, ptr m.g 0, .string m.txt, .bool false, .int .u8 0, .int .u8 0]
def Ms.cells (m : Ms) : List Value := [.slice none 0 0, str0, .nilIface, ptr m.g 0, .string m.txt, .bool false, .int .u8 0, .int .u8 0]
def flatM (M : List Ms) : List Value := (M.map Ms.cells).flatten
theorem flatM_snoc (M : List Ms) (m : Ms) : flatM (M ++ [m]) = flatM M ++ m.cells := by simp [flatM]
/-- The log's own blocks. -/
structure Bl (D b bk bs bm bh : Nat) : Prop where
  o0 : D ≤ bk
  o1 : bk < bs
  o2 : bs < bm
  o3 : bm < bh
  o4 : bh < b
structure Lg (w : World) (D b bk bs bm bh : Nat) (v : Value) (M : List Ms) : Prop where
  bl : Bl D b bk bs bm bh
  kind : w.cell? ⟨bk, 0, none⟩ = some (.int .u8 0)
  mu : w.cell? ⟨bm, 0, none⟩ = some (.int .i32 0)
  muz : w.frozen? ⟨bm, 0, none⟩ = false
  has : ∃ x, w.cell? ⟨bh, 0, none⟩ = some (.bool x)
  hasz : w.frozen? ⟨bh, 0, none⟩ = false
  msgs : w.cell? ⟨bs, 0, none⟩ = some v
  msgz : w.frozen? ⟨bs, 0, none⟩ = false
  row : w.ownsRow D 178 8 v M.length (flatM M)
  far : ∀ k, v.ownBlock = some k → k ≠ bk ∧ k ≠ bs ∧ k ≠ bm ∧ k ≠ bh ∧ k ≠ b
  loc : ∀ m ∈ M, LocOk w m.g m.len ∧ D ≤ m.g ∧ m.g ≠ bs ∧ m.g ≠ bm ∧ m.g ≠ bh ∧ m.g ≠ b ∧ v.ownBlock ≠ some m.g
theorem info178 : (Tryf.prog.info? 178).map (fun i => (i.zero.map (·.cells), i.size, i.bytes)) = some (some #[.slice none 0 0, str0, .nilIface, .pointer none, str0, .bool false, .int .u8 0, .int .u8 0], 8, 96) := by kernel_rfl
theorem parts_of {T : TypeId} {cs : Array Value} {n b : Nat} (h : (Tryf.prog.info? T).map (fun i => (i.zero.map (·.cells), i.size, i.bytes)) = some (some cs, n, b)) :
    ∃ i z, Tryf.prog.info? T = some i ∧ i.zero = some z ∧ z.cells = cs ∧ i.size = n ∧ i.bytes = b := by
  obtain ⟨i, hi, hz⟩ := Option.map_eq_some_iff.1 h
  simp only [Prod.mk.injEq] at hz
  obtain ⟨h1, h2, h3⟩ := hz
  obtain ⟨z, hz, hzc⟩ := Option.map_eq_some_iff.1 h1
  exact ⟨i, z, hi, hz, hzc, h2, h3⟩
/-- The blocks that adding a message may turn. -/
def AddF (bs bm bh : Nat) (v : Value) (k : Nat) : Prop := k = bs ∨ k = bm ∨ k = bh ∨ v.ownBlock = some k
def AddP (w : World) (D b bk bs bm bh : Nat) (v : Value) (M : List Ms) (m : Ms) (e : Ending) (w' : World) : Prop :=
  e = .returned (.tuple #[]) ∧ ∃ v', Lg w' D b bk bs bm bh v' (M ++ [m]) ∧ Touch (AddF bs bm bh v) w w' ∧ (∀ k, v'.ownBlock = some k → v.ownBlock = some k ∨ w.heap.size ≤ k)
theorem add20 (w : World) (D b bk bs bm bh : Nat) (v : Value) (M : List Ms) (m : Ms) (L : Lg w D b bk bs bm bh v M) (hM : M.length ≤ 1048576) (hb : b < w.heap.size)
    (hm : LocOk w m.g m.len) (hg : D ≤ m.g ∧ m.g ≠ bs ∧ m.g ≠ bm ∧ m.g ≠ bh ∧ m.g ≠ b ∧ v.ownBlock ≠ some m.g) :
    Calls Tryf.prog 20 #[m.val, ptr bk 0, ptr bm 0, ptr bh 0, ptr bs 0] w (AddP w D b bk bs bm bh v M m) := by
  have c0 := L.kind
  have c1 := L.mu
  have z1 := L.muz
  obtain ⟨x, c2⟩ := L.has
  have z2 := L.hasz
  have c3 := L.msgs
  have z3 := L.msgz
  have HL := Lib.hid L
  have HM := Lib.hid (And.intro hm hg)
  obtain ⟨i0, z0, e1, e2, e3, e4, e5⟩ := parts_of info178
  have E1 := Lib.hid e1
  have E2 := Lib.hid e2
  have E3 := Lib.hid e3
  have E4 := Lib.hid e4
  have E5 := Lib.hid e5
  obtain ⟨o0, o1, o2, o3, o4⟩ := L.bl
  have k0 : bk < w.heap.size := by omega
  have k1 : bs < w.heap.size := by omega
  have k2 : bm < w.heap.size := by omega
  have k3 : bh < w.heap.size := by omega
  clear e1 e2 e3 e4 e5 L hm hg
  go_enter_defers Tryf.func20, Tryf.ntmps20
  go_upto_region 6 with (go_at_call 21; refine (lock_free Tryf.muLib ⟨bm, 0, none⟩ _ (by go_simp) (by go_simp)).mono ?_; rintro _ _ ⟨rfl, rfl⟩)
  have hF := HL.out.far
  have T1 := Lib.hid (show Touch (AddF bs bm bh v) w (((w.setCell ⟨bm, 0, none⟩ (.int .i32 1)).setCell ⟨bh, 0, none⟩ (.bool true)).alloc (.cells #[.slice none 0 0, str0, .nilIface, ptr m.g 0, .string m.txt, .bool false, .int .u8 0, .int .u8 0] 178)) from (((Touch.refl _ w).setCell ⟨bm, 0, none⟩ (fun _ => Or.inr (Or.inl rfl)) _).setCell ⟨bh, 0, none⟩ (fun _ => Or.inr (Or.inr (Or.inl rfl))) _).alloc _)
  have R1 := Lib.hid ((ownsRow_setCell_other (ownsRow_setCell_other HL.out.row (a := ⟨bm, 0, none⟩) (fun e => (hF _ e).2.2.1 rfl) (.int .i32 1)) (a := ⟨bh, 0, none⟩) (fun e => (hF _ e).2.2.2.1 rfl) (.bool true)).alloc (.cells #[.slice none 0 0, str0, .nilIface, ptr m.g 0, .string m.txt, .bool false, .int .u8 0, .int .u8 0] 178))
  have hx := heap_alloc_new ((w.setCell ⟨bm, 0, none⟩ (.int .i32 1)).setCell ⟨bh, 0, none⟩ (.bool true)) (.cells #[.slice none 0 0, str0, .nilIface, ptr m.g 0, .string m.txt, .bool false, .int .u8 0, .int .u8 0] 178)
  rw [show ((w.setCell ⟨bm, 0, none⟩ (.int .i32 1)).setCell ⟨bh, 0, none⟩ (.bool true)).heap.size = w.heap.size by simp] at hx
  have m1 : (((w.setCell ⟨bm, 0, none⟩ (.int .i32 1)).setCell ⟨bh, 0, none⟩ (.bool true)).alloc (.cells #[.slice none 0 0, str0, .nilIface, ptr m.g 0, .string m.txt, .bool false, .int .u8 0, .int .u8 0] 178)).cell? ⟨bm, 0, none⟩ = some (.int .i32 1) := by go_simp
  have h1 : (((w.setCell ⟨bm, 0, none⟩ (.int .i32 1)).setCell ⟨bh, 0, none⟩ (.bool true)).alloc (.cells #[.slice none 0 0, str0, .nilIface, ptr m.g 0, .string m.txt, .bool false, .int .u8 0, .int .u8 0] 178)).cell? ⟨bh, 0, none⟩ = some (.bool true) := by go_simp
  have b1 : (((w.setCell ⟨bm, 0, none⟩ (.int .i32 1)).setCell ⟨bh, 0, none⟩ (.bool true)).alloc (.cells #[.slice none 0 0, str0, .nilIface, ptr m.g 0, .string m.txt, .bool false, .int .u8 0, .int .u8 0] 178)).cell? ⟨bs, 0, none⟩ = some v := by go_simp
  have q1 : (((w.setCell ⟨bm, 0, none⟩ (.int .i32 1)).setCell ⟨bh, 0, none⟩ (.bool true)).alloc (.cells #[.slice none 0 0, str0, .nilIface, ptr m.g 0, .string m.txt, .bool false, .int .u8 0, .int .u8 0] 178)).cell? ⟨bk, 0, none⟩ = some (.int .u8 0) := by go_simp
  have y1 : (((w.setCell ⟨bm, 0, none⟩ (.int .i32 1)).setCell ⟨bh, 0, none⟩ (.bool true)).alloc (.cells #[.slice none 0 0, str0, .nilIface, ptr m.g 0, .string m.txt, .bool false, .int .u8 0, .int .u8 0] 178)).frozen? ⟨bm, 0, none⟩ = false := by go_simp
  have y2 : (((w.setCell ⟨bm, 0, none⟩ (.int .i32 1)).setCell ⟨bh, 0, none⟩ (.bool true)).alloc (.cells #[.slice none 0 0, str0, .nilIface, ptr m.g 0, .string m.txt, .bool false, .int .u8 0, .int .u8 0] 178)).frozen? ⟨bh, 0, none⟩ = false := by go_simp
  have y3 : (((w.setCell ⟨bm, 0, none⟩ (.int .i32 1)).setCell ⟨bh, 0, none⟩ (.bool true)).alloc (.cells #[.slice none 0 0, str0, .nilIface, ptr m.g 0, .string m.txt, .bool false, .int .u8 0, .int .u8 0] 178)).frozen? ⟨bs, 0, none⟩ = false := by go_simp
  have g1 : m.g < w.heap.size := HM.out.1.lt
  have l1 : ∀ k, k < w.heap.size → k ≠ bm → k ≠ bh → (((w.setCell ⟨bm, 0, none⟩ (.int .i32 1)).setCell ⟨bh, 0, none⟩ (.bool true)).alloc (.cells #[.slice none 0 0, str0, .nilIface, ptr m.g 0, .string m.txt, .bool false, .int .u8 0, .int .u8 0] 178)).heap[k]? = w.heap[k]? := fun k h2 h3 h4 => (Below.heap_alloc _ _ _ (by simpa using h2)).trans ((Below.heap_setCell _ _ _ _ h4).trans (Below.heap_setCell _ _ _ _ h3))
  have s1 : (((w.setCell ⟨bm, 0, none⟩ (.int .i32 1)).setCell ⟨bh, 0, none⟩ (.bool true)).alloc (.cells #[.slice none 0 0, str0, .nilIface, ptr m.g 0, .string m.txt, .bool false, .int .u8 0, .int .u8 0] 178)).heap.size = w.heap.size + 1 := by simp
  have L1 := Lib.hid l1
  clear l1 c0 c1 c2 c3 z1 z2 z3
  generalize (((w.setCell ⟨bm, 0, none⟩ (.int .i32 1)).setCell ⟨bh, 0, none⟩ (.bool true)).alloc (.cells #[.slice none 0 0, str0, .nilIface, ptr m.g 0, .string m.txt, .bool false, .int .u8 0, .int .u8 0] 178)) = W1 at *
  have x0 : W1.cell? ⟨w.heap.size, 0, none⟩ = some (.slice none 0 0) := by rw [cell_of_row W1 _ 0 _ _ _ hx]; rfl
  have x1 : W1.cell? ⟨w.heap.size, 1, none⟩ = some (str0) := by rw [cell_of_row W1 _ 1 _ _ _ hx]; rfl
  have x2 : W1.cell? ⟨w.heap.size, 2, none⟩ = some (.nilIface) := by rw [cell_of_row W1 _ 2 _ _ _ hx]; rfl
  have x3 : W1.cell? ⟨w.heap.size, 3, none⟩ = some (ptr m.g 0) := by rw [cell_of_row W1 _ 3 _ _ _ hx]; rfl
  have x4 : W1.cell? ⟨w.heap.size, 4, none⟩ = some (.string m.txt) := by rw [cell_of_row W1 _ 4 _ _ _ hx]; rfl
  have x5 : W1.cell? ⟨w.heap.size, 5, none⟩ = some (.bool false) := by rw [cell_of_row W1 _ 5 _ _ _ hx]; rfl
  have x6 : W1.cell? ⟨w.heap.size, 6, none⟩ = some (.int .u8 0) := by rw [cell_of_row W1 _ 6 _ _ _ hx]; rfl
  have x7 : W1.cell? ⟨w.heap.size, 7, none⟩ = some (.int .u8 0) := by rw [cell_of_row W1 _ 7 _ _ _ hx]; rfl
  have HOne : Hid (∀ u ∈ ([.slice none 0 0, str0, .nilIface, ptr m.g 0, .string m.txt, .bool false, .int .u8 0, .int .u8 0] : List Value), u.oneCell' = true) := Lib.hid (by simp [Value.oneCell'])
  have HX := Lib.hid hx
  have HF := Lib.hid hF
  have y1' := Lib.hid y1
  have S1 := Lib.hid s1
  have hD1 : D ≤ W1.heap.size := by omega
  clear hx hF s1
  go_wp2_with (refine wpList_append_lies _ rfl (.tmp 22) (.tmp 24) 182 rfl D 178 i0 z0 8 96 Tryf.underlying182 E1.out E2.out E4.out E5.out (by rw [E3.out]; rfl) (by decide) v M.length (flatM M) (by simp [Act.eval]) (R1.out.alloc _) ⟨W1.heap.size, 0, none⟩ 1 1 [.slice none 0 0, str0, .nilIface, ptr m.g 0, .string m.txt, .bool false, .int .u8 0, .int .u8 0] (by simp [Act.eval]) rfl (World.news_of_block (heap_alloc_new W1 _)) HOne.out (by decide) (by unfold maxLen; omega) (by omega) (by simp; omega) _ rfl ?_; clear R1; intro k cap w2 hown hgrow hat hlt; have nb : ∀ j, j < w.heap.size → v.ownBlock ≠ some j → w2.heap[j]? = W1.heap[j]? := (fun j hj hn => (hgrow.block j (by simp; have := S1.out; omega) (fun e => hn e.symm)).trans (Below.heap_alloc _ _ _ (by have := S1.out; omega))); have b2 : w2.cell? ⟨bs, 0, none⟩ = some v := (World.cell?_of_block (a := ⟨bs, 0, none⟩) (nb bs k1 (fun e => (HF.out _ e).2.1 rfl))).trans b1; have yb : w2.frozen? ⟨bs, 0, none⟩ = false := (World.frozen?_of_block (a := ⟨bs, 0, none⟩) (nb bs k1 (fun e => (HF.out _ e).2.1 rfl))).trans y3; have NB := Lib.hid nb; have HO := Lib.hid hown; have HG := Lib.hid hgrow; have HA := Lib.hid hat; have HLT := Lib.hid hlt; clear nb hown hgrow hat hlt b1 y3)
  have hmv : v.ownBlock ≠ some bm := fun e => (HF.out _ e).2.2.1 rfl
  have hhv : v.ownBlock ≠ some bh := fun e => (HF.out _ e).2.2.2.1 rfl
  have hkv : v.ownBlock ≠ some bk := fun e => (HF.out _ e).1 rfl
  have sv : W1.heap.size = w.heap.size + 1 := S1.out
  -- the row's block is none of the log's
  have kfar : k ≠ bk ∧ k ≠ bs ∧ k ≠ bm ∧ k ≠ bh ∧ k ≠ b := by
    rcases HA.out with e | e
    · exact HF.out _ e
    · have : k = w.heap.size + 2 := by rw [e]; simp; omega
      omega
  have hkg : ∀ g, g < w.heap.size → v.ownBlock ≠ some g → k ≠ g := fun g h1 h2 e => by
    rcases HA.out with e' | e'
    · exact h2 (e ▸ e')
    · have : k = w.heap.size + 2 := by rw [e']; simp; omega
      omega
  have m2 : w2.cell? ⟨bm, 0, none⟩ = some (.int .i32 1) := (World.cell?_of_block (a := ⟨bm, 0, none⟩) (NB.out bm k2 hmv)).trans m1
  have ym2 : w2.frozen? ⟨bm, 0, none⟩ = false := (World.frozen?_of_block (a := ⟨bm, 0, none⟩) (NB.out bm k2 hmv)).trans y1
  refine leaves_cons (f := 22) (args := #[.pointer (some ⟨bm, 0, none⟩)]) (by simp) (by simp [go_sem]) ?_
  refine (unlock_deferred Tryf.muLib ⟨bm, 0, none⟩ .returning _ ?_ ?_).mono ?_
  · exact (World.cell?_setCell_other _ ⟨bs, 0, none⟩ ⟨bm, 0, none⟩ _ (by simp <;> omega)).trans m2
  · rw [World.frozen?_setCell]; exact ym2
  rintro e u' w'' ⟨rfl, rfl, rfl⟩
  refine ⟨_, results_none rfl _ _ _, rfl, .slice (some ⟨k, 0, none⟩) (M.length + 1) cap, ?_, ?_, ?_⟩
  · have far : ∀ j, j ≠ bs → j ≠ bm → ((w2.setCell ⟨bs, 0, none⟩ (.slice (some ⟨k, 0, none⟩) (M.length + 1) cap)).setCell ⟨bm, 0, none⟩ (.int .i32 0)).heap[j]? = w2.heap[j]? := fun j h1 h2 => (Below.heap_setCell _ _ _ _ h2).trans (Below.heap_setCell _ _ _ _ h1)
    have old : ∀ j, j < w.heap.size → j ≠ bs → j ≠ bm → j ≠ bh → v.ownBlock ≠ some j → ((w2.setCell ⟨bs, 0, none⟩ (.slice (some ⟨k, 0, none⟩) (M.length + 1) cap)).setCell ⟨bm, 0, none⟩ (.int .i32 0)).heap[j]? = w.heap[j]? := fun j h1 h2 h3 h4 h5 => (far j h2 h3).trans ((NB.out j h1 h5).trans (L1.out j h1 h3 h4))
    refine ⟨HL.out.bl, ?_, ?_, ?_, ⟨true, ?_⟩, ?_, ?_, ?_, ?_, ?_, ?_⟩
    · exact (World.cell?_of_block (a := ⟨bk, 0, none⟩) (old bk k0 (by omega) (by omega) (by omega) hkv)).trans HL.out.kind
    · exact World.cell?_setCell_same _ _ _ ((World.cell?_setCell_other _ ⟨bs, 0, none⟩ ⟨bm, 0, none⟩ _ (by simp <;> omega)).trans m2)
    · rw [World.frozen?_setCell, World.frozen?_setCell]; exact ym2
    · exact (World.cell?_of_block (a := ⟨bh, 0, none⟩) ((far bh (by omega) (by omega)).trans (NB.out bh k3 hhv))).trans h1
    · exact (World.frozen?_of_block (a := ⟨bh, 0, none⟩) ((far bh (by omega) (by omega)).trans (NB.out bh k3 hhv))).trans y2
    · exact (World.cell?_setCell_other _ ⟨bm, 0, none⟩ ⟨bs, 0, none⟩ _ (by simp <;> omega)).trans (World.cell?_setCell_same _ _ _ b2)
    · rw [World.frozen?_setCell, World.frozen?_setCell]; exact yb
    · have := ownsRow_setCell_other (ownsRow_setCell_other HO.out (a := ⟨bs, 0, none⟩) (by simp [Value.ownBlock]; exact kfar.2.1) (.slice (some ⟨k, 0, none⟩) (M.length + 1) cap)) (a := ⟨bm, 0, none⟩) (by simp [Value.ownBlock]; exact kfar.2.2.1) (.int .i32 0)
      rw [flatM_snoc, List.length_append]
      exact this
    · intro j hj
      simp [Value.ownBlock] at hj
      subst hj
      exact kfar
    · intro m' hm'
      have ind : ∀ m' : Ms, LocOk w m'.g m'.len ∧ D ≤ m'.g ∧ m'.g ≠ bs ∧ m'.g ≠ bm ∧ m'.g ≠ bh ∧ m'.g ≠ b ∧ v.ownBlock ≠ some m'.g → LocOk ((w2.setCell ⟨bs, 0, none⟩ (.slice (some ⟨k, 0, none⟩) (M.length + 1) cap)).setCell ⟨bm, 0, none⟩ (.int .i32 0)) m'.g m'.len ∧ D ≤ m'.g ∧ m'.g ≠ bs ∧ m'.g ≠ bm ∧ m'.g ≠ bh ∧ m'.g ≠ b ∧ (Value.slice (some ⟨k, 0, none⟩) (M.length + 1) cap).ownBlock ≠ some m'.g := fun m' ⟨a1, a2, a3, a4, a5, a6, a7⟩ => by
        have hlt := a1.lt
        refine ⟨a1.of_block (old m'.g hlt a3 a4 a5 a7), a2, a3, a4, a5, a6, ?_⟩
        simp [Value.ownBlock]
        exact hkg _ hlt a7
      rcases List.mem_append.1 hm' with h | h
      · exact ind m' (HL.out.loc m' h)
      · obtain rfl := List.mem_singleton.1 h
        exact ind _ HM.out
  · refine (((T1.out.alloc _).grown HG.out (fun k h _ => Or.inr (Or.inr (Or.inr h)))).setCell ⟨bs, 0, none⟩ (fun _ => Or.inl rfl) _).setCell ⟨bm, 0, none⟩ (fun _ => Or.inr (Or.inl rfl)) _
  · intro j hj
    simp [Value.ownBlock] at hj
    subst hj
    rcases HA.out with e | e
    · exact Or.inl e
    · refine Or.inr ?_
      rw [e]; simp; omega
end Go.Proofs.YtfnicbfdfceagaaFmt.lg
