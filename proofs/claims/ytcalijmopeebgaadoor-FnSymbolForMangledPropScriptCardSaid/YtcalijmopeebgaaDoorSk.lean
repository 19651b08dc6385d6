/-
  Mangled properties: the law over a script, its two lists.
-/
import Derived.Test.YtcalijmopeebgaaDoorSc
import Derived.Test.YtcalijmopeebgaaDoorRr
namespace Go.Proofs.YtcalijmopeebgaaDoor.mp
open Go.ChangeShapes Go.WideShapes Go.ChangeAt Go.RowKit Go.Deep Go.Proofs.YtcalijmopeebgaaDoor.mk
set_option linter.unusedVariables false
set_option linter.unusedSimpArgs false
/-- The parser after k names, beside the law's two lists. -/
def Sl (w1 : World) (g : Nat) (src : Int) (dead : Bool) (ia ib : Int) (V : Nat → ByteArray) (k n1 : Nat) (N : List Value) (n2 : Nat) (C : List Value) (fb c1 cb c2 : Nat) (wr : World) : Prop :=
  Sr w1 g src dead ia ib V (fun b => b = fb ∨ b = cb) k wr ∧ wr.ownsRow g 9 1 (.slice (some ⟨fb, 0, none⟩) n1 c1) n1 N ∧ wr.ownsRow g 28 1 (.slice (some ⟨cb, 0, none⟩) n2 c2) n2 C ∧ fb ≠ cb
theorem row_block {w w' : World} {D E n b c z : Nat} {xs : List Value} (h : w.ownsRow D E z (.slice (some ⟨b, 0, none⟩) n c) n xs) (e : w'.heap[b]? = w.heap[b]?) : w'.ownsRow D E z (.slice (some ⟨b, 0, none⟩) n c) n xs := by
  obtain ⟨h1, h2⟩ := h
  refine ⟨h1, ?_⟩
  rcases h2 with h2 | ⟨q, cap, cur, e1, hb, hh, r⟩
  · exact .inl h2
  · refine .inr ⟨q, cap, cur, e1, hb, ?_, r⟩
    simp only [Value.slice.injEq, Option.some.injEq, Addr.mk.injEq, true_and, and_true] at e1
    obtain ⟨rfl, rfl⟩ := e1
    exact e.trans hh

theorem Sl.app1 {w1 wr : World} {g : Nat} {src : Int} {dead : Bool} {ia ib : Int} {V : Nat → ByteArray} {k n1 n2 fb c1 cb c2 : Nat} {N C : List Value} (h : Sl w1 g src dead ia ib V k n1 N n2 C fb c1 cb c2 wr) (s : ByteArray) (hn : n1 ≤ 65536) :
    ∃ fb' c1' w2, (Builtin.append_ #[22, 22] 22 #[.slice (some ⟨fb, 0, none⟩) n1 c1, .slice (some ⟨wr.heap.size, 0, none⟩) 1 1]).run Tryd.prog (wr.alloc (.cells #[.string s] 9)) = .ok (.slice (some ⟨fb', 0, none⟩) (n1 + 1) c1') w2 ∧ Sl w1 g src dead ia ib V k (n1 + 1) (N ++ [.string s]) n2 C fb' c1' cb c2 w2 := by
  obtain ⟨hS, h1, h2, hne⟩ := h
  obtain ⟨i, hi, hz⟩ := Option.map_eq_some_iff.1 info9
  simp only [Prod.mk.injEq] at hz
  obtain ⟨hz1, hz2, hz3⟩ := hz
  have hg := hS.size
  have hS1 := hS.more (.cells #[.string s] 9)
  have hb : (wr.alloc (.cells #[.string s] 9)).heap[wr.heap.size]? = some (.cells #[.string s] 9 (0, 0)) := heap_alloc_new wr _
  have hsz : (wr.alloc (.cells #[.string s] 9)).heap.size = wr.heap.size + 1 := by simp
  obtain ⟨fb', c1', w2, hrun, hown, hgrow, hat, hlt⟩ := run_append_lies (P := Tryd.prog) (wr.alloc (.cells #[.string s] 9)) 22 22 g 9 i _ 1 16 Tryd.underlying22 hi hz1 hz2 hz3 (by rfl) (by decide) _ n1 N (h1.alloc _) ⟨wr.heap.size, 0, none⟩ 1 1 [.string s] rfl (World.news_of_block hb) (by simp [Value.oneCell']) (by decide) (by unfold maxLen; omega) (by omega) (by rw [hsz]; omega) _ rfl
  refine ⟨fb', c1', w2, hrun, ?_⟩
  have hl1 := (h1.lt fb rfl)
  have hl2 := (h2.lt cb rfl)
  have ht : Touch (fun b => (b = fb ∨ b = cb) ∨ b = wr.heap.size) (wr.alloc (.cells #[.string s] 9)) w2 := (Touch.refl _ _).grown hgrow (fun q hq _ => by simp only [Value.ownBlock, Option.some.injEq] at hq; subst hq; simp)
  have hS2 := hS1.grow (fun b hb => by rcases hb with (hb | hb) | hb <;> omega) ht
  have hnew : fb' = fb ∨ wr.heap.size < fb' := by
    rcases hat with h | h
    · simp only [Value.ownBlock, Option.some.injEq] at h; exact .inl h.symm
    · right; rw [hsz] at h; omega
  have hoth : w2.heap[cb]? = wr.heap[cb]? := (hgrow.block cb (by rw [hsz]; omega) (fun e => by simp only [Value.ownBlock, Option.some.injEq] at e; omega)).trans (Below.heap_alloc _ _ _ (by omega))
  have hcase : fb' = fb ∨ fb' = wr.heap.size + 1 := by
    rcases hat with h | h
    · simp only [Value.ownBlock, Option.some.injEq] at h; exact .inl h.symm
    · right; rw [hsz] at h; exact h
  have hmono : Sr w1 g src dead ia ib V (fun b => b = fb' ∨ b = cb) k w2 := hS2.mono (fun b hb => by
    rcases hcase with e | e <;> rcases hb with rfl | rfl <;> first | (rw [e]; exact .inl (.inl (.inl rfl))) | (rw [e]; exact .inl (.inl (.inr rfl))) | exact .inl (.inl (.inl rfl)) | exact .inl (.inl (.inr rfl)) | exact .inr ⟨by rw [hsz]; omega, hlt⟩)
  have hother := row_block h2 hoth
  exact ⟨hmono, hown, hother, by omega⟩

theorem Sl.app2 {w1 wr : World} {g : Nat} {src : Int} {dead : Bool} {ia ib : Int} {V : Nat → ByteArray} {k n1 n2 fb c1 cb c2 : Nat} {N C : List Value} (h : Sl w1 g src dead ia ib V k n1 N n2 C fb c1 cb c2 wr) (hn : n2 ≤ 65536) :
    ∃ cb' c2' w2, (Builtin.append_ #[34, 34] 34 #[.slice (some ⟨cb, 0, none⟩) n2 c2, .slice (some ⟨wr.heap.size, 0, none⟩) 1 1]).run Tryd.prog (wr.alloc (.cells #[.int .u32 0] 28)) = .ok (.slice (some ⟨cb', 0, none⟩) (n2 + 1) c2') w2 ∧ Sl w1 g src dead ia ib V k n1 N (n2 + 1) (C ++ [.int .u32 0]) fb c1 cb' c2' w2 := by
  obtain ⟨hS, h1, h2, hne⟩ := h
  obtain ⟨i, hi, hz⟩ := Option.map_eq_some_iff.1 info28
  simp only [Prod.mk.injEq] at hz
  obtain ⟨hz1, hz2, hz3⟩ := hz
  have hg := hS.size
  have hS1 := hS.more (.cells #[.int .u32 0] 28)
  have hb : (wr.alloc (.cells #[.int .u32 0] 28)).heap[wr.heap.size]? = some (.cells #[.int .u32 0] 28 (0, 0)) := heap_alloc_new wr _
  have hsz : (wr.alloc (.cells #[.int .u32 0] 28)).heap.size = wr.heap.size + 1 := by simp
  obtain ⟨cb', c2', w2, hrun, hown, hgrow, hat, hlt⟩ := run_append_lies (P := Tryd.prog) (wr.alloc (.cells #[.int .u32 0] 28)) 34 34 g 28 i _ 1 4 Tryd.underlying34 hi hz1 hz2 hz3 (by rfl) (by decide) _ n2 C (h2.alloc _) ⟨wr.heap.size, 0, none⟩ 1 1 [.int .u32 0] rfl (World.news_of_block hb) (by simp [Value.oneCell']) (by decide) (by unfold maxLen; omega) (by omega) (by rw [hsz]; omega) _ rfl
  refine ⟨cb', c2', w2, hrun, ?_⟩
  have hl1 := (h1.lt fb rfl)
  have hl2 := (h2.lt cb rfl)
  have ht : Touch (fun b => (b = fb ∨ b = cb) ∨ b = wr.heap.size) (wr.alloc (.cells #[.int .u32 0] 28)) w2 := (Touch.refl _ _).grown hgrow (fun q hq _ => by simp only [Value.ownBlock, Option.some.injEq] at hq; subst hq; simp)
  have hS2 := hS1.grow (fun b hb => by rcases hb with (hb | hb) | hb <;> omega) ht
  have hnew : cb' = cb ∨ wr.heap.size < cb' := by
    rcases hat with h | h
    · simp only [Value.ownBlock, Option.some.injEq] at h; exact .inl h.symm
    · right; rw [hsz] at h; omega
  have hoth : w2.heap[fb]? = wr.heap[fb]? := (hgrow.block fb (by rw [hsz]; omega) (fun e => by simp only [Value.ownBlock, Option.some.injEq] at e; omega)).trans (Below.heap_alloc _ _ _ (by omega))
  have hcase : cb' = cb ∨ cb' = wr.heap.size + 1 := by
    rcases hat with h | h
    · simp only [Value.ownBlock, Option.some.injEq] at h; exact .inl h.symm
    · right; rw [hsz] at h; exact h
  have hmono : Sr w1 g src dead ia ib V (fun b => b = fb ∨ b = cb') k w2 := hS2.mono (fun b hb => by
    rcases hcase with e | e <;> rcases hb with rfl | rfl <;> first | (rw [e]; exact .inl (.inl (.inl rfl))) | (rw [e]; exact .inl (.inl (.inr rfl))) | exact .inl (.inl (.inl rfl)) | exact .inl (.inl (.inr rfl)) | exact .inr ⟨by rw [hsz]; omega, hlt⟩)
  have hother := row_block h1 hoth
  exact ⟨hmono, hother, hown, by omega⟩

section
variable {w1 wr : World} {g : Nat} {src : Int} {dead : Bool} {ia ib : Int} {V : Nat → ByteArray} {k n1 n2 fb c1 cb c2 : Nat} {N C : List Value}
theorem Sl.lts (h : Sl w1 g src dead ia ib V k n1 N n2 C fb c1 cb c2 wr) : (g ≤ fb ∧ fb < wr.heap.size) ∧ (g ≤ cb ∧ cb < wr.heap.size) ∧ fb ≠ cb := ⟨h.2.1.lt fb rfl, h.2.2.1.lt cb rfl, h.2.2.2⟩
theorem Sl.setc (h : Sl w1 g src dead ia ib V k n1 N n2 C fb c1 cb c2 wr) {i : Nat} (hi : i < n2) (v : Value) : Sl w1 g src dead ia ib V k n1 N n2 (C.set i v) fb c1 cb c2 (wr.setCell ⟨cb, i, none⟩ v) := by
  obtain ⟨hl1, hl2, hne⟩ := h.lts
  exact ⟨h.1.set (.inr rfl) hl2.1 i v, row_block h.2.1 (Below.heap_setCell _ _ _ _ (by show fb ≠ cb; omega)), ownsRow_set h.2.2.1 i (by omega) v, hne⟩
theorem Sl.below {w' : World} (h : Sl w1 g src dead ia ib V k n1 N n2 C fb c1 cb c2 wr) (hb : Below wr.heap.size wr w') : Sl w1 g src dead ia ib V k n1 N n2 C fb c1 cb c2 w' := by
  obtain ⟨hl1, hl2, hne⟩ := h.lts
  exact ⟨h.1.below hb, row_block h.2.1 (hb.block fb hl1.2), row_block h.2.2.1 (hb.block cb hl2.2), hne⟩
theorem Sl.step (h : Sl w1 g src dead ia ib V k n1 N n2 C fb c1 cb c2 wr) (hk : k ≤ 1048576) {s : ByteArray} (hs : s = V k) :
    Calls Tryd.prog 9 #[.pointer (some ⟨g, 0, none⟩), .string s] wr (fun e w' => e = .returned (.agg #[.int .u32 src, .int .u32 (idx (runL dead V k) (V k) : Nat)]) ∧ Sl w1 g src dead ia ib V (k + 1) n1 N n2 C fb c1 cb c2 w') := by
  refine (h.1.step hk hs).mono ?_
  rintro e w' ⟨rfl, hS, _, hkeep⟩
  exact ⟨rfl, hS, row_block h.2.1 (hkeep fb (.inr (.inl rfl))), row_block h.2.2.1 (hkeep cb (.inr (.inr rfl))), h.2.2.2⟩
theorem Sl.nameAt (h : Sl w1 g src dead ia ib V k n1 N n2 C fb c1 cb c2 wr) {j : Nat} (hj : j < n1) : wr.cell? ⟨fb, j, none⟩ = N[j]? := h.2.1.cellAt j (by omega)
theorem Sl.countAt (h : Sl w1 g src dead ia ib V k n1 N n2 C fb c1 cb c2 wr) {j : Nat} (hj : j < n2) : wr.cell? ⟨cb, j, none⟩ = C[j]? := h.2.2.1.cellAt j (by omega)
theorem Sl.countFree (h : Sl w1 g src dead ia ib V k n1 N n2 C fb c1 cb c2 wr) (j : Nat) : wr.frozen? ⟨cb, j, none⟩ = false := by
  rcases h.2.2.1.2 with ⟨h2, _⟩ | ⟨q', cap', cur, e1, hb, hh, _⟩
  · cases h2
  · simp only [Value.slice.injEq, Option.some.injEq, Addr.mk.injEq, true_and, and_true] at e1
    obtain ⟨rfl, rfl⟩ := e1
    exact frozen_of_row wr cb _ _ _ hh
end
end Go.Proofs.YtcalijmopeebgaaDoor.mp
