/-
  Mangled properties: the state of the law that runs the names twice.
-/
import Derived.Test.YtcalijmopeebgaaDoorPl
import Derived.Deep.OwnRows
namespace Go.Proofs.YtcalijmopeebgaaDoor.mp
open Go.ChangeShapes Go.WideShapes Go.ChangeAt Go.RowKit Go.Deep Go.Proofs.YtcalijmopeebgaaDoor.mk
set_option linter.unusedVariables false
set_option linter.unusedSimpArgs false

/-- The parser after k names of VV; the blocks X are none of its own. -/
def Sr (w1 : World) (g : Nat) (src : Int) (dead : Bool) (ia ib : Int) (VV : Nat → ByteArray) (X : Nat → Prop) (k : Nat) (wr : World) : Prop :=
  ∃ sv m, Mp wr g src dead ia ib (runL dead VV k) sv m ∧ (∀ b, b < g ∨ X b → b < wr.heap.size ∧ Far b g sv m) ∧ Below g w1 wr
section
variable {w1 wr : World} {g : Nat} {src : Int} {dead : Bool} {ia ib : Int} {VV : Nat → ByteArray} {X : Nat → Prop} {k : Nat}
theorem Sr.size (h : Sr w1 g src dead ia ib VV X k wr) : g < wr.heap.size := by
  obtain ⟨sv, m, h, _⟩ := h; exact h.pm.lt
theorem Sr.bel (h : Sr w1 g src dead ia ib VV X k wr) : Below g w1 wr := by
  obtain ⟨sv, m, _, _, h⟩ := h; exact h
/-- What changes nothing of the parser's. -/
theorem Sr.below {w' : World} (h : Sr w1 g src dead ia ib VV X k wr) (hb : Below wr.heap.size wr w') : Sr w1 g src dead ia ib VV X k w' := by
  obtain ⟨sv, m, hM, hF, hB⟩ := h
  have hg := hM.pm.lt
  refine ⟨sv, m, hM.keep (fun b hlt _ => hb.block b hlt), fun b hX => ⟨Nat.lt_of_lt_of_le (hF b hX).1 hb.size, (hF b hX).2⟩, hB.trans ⟨hb.os, hb.tape, hb.output, hb.size, fun b hlt => hb.block b (by omega)⟩⟩
theorem Sr.set {b : Nat} (h : Sr w1 g src dead ia ib VV X k wr) (hX : X b) (hg : g ≤ b) (i : Nat) (v : Value) : Sr w1 g src dead ia ib VV X k (wr.setCell ⟨b, i, none⟩ v) := by
  obtain ⟨sv, m, hM, hF, hB⟩ := h
  have hsz : (wr.setCell ⟨b, i, none⟩ v).heap.size = wr.heap.size := by simp [World.setCell]
  have h0 : b ≠ 0 := by
    intro e; subst e
    obtain rfl : g = 0 := by omega
    exact hM.z.1 rfl
  refine ⟨sv, m, hM.setFar h0 (hF b (.inr hX)).2 i v, fun q hq => by rw [hsz]; exact hF q hq, hB.trans ⟨rfl, rfl, rfl, by rw [hsz]; exact Nat.le_refl _, fun q hq => Below.heap_setCell _ _ _ _ (by show q ≠ b; omega)⟩⟩
/-- A new block is none of the parser's. -/
theorem Sr.more (h : Sr w1 g src dead ia ib VV X k wr) (o : Obj) : Sr w1 g src dead ia ib VV (fun b => X b ∨ b = wr.heap.size) k (wr.alloc o) := by
  obtain ⟨sv, m, hM, hF, hB⟩ := h
  have hg := hM.pm.lt
  refine ⟨sv, m, hM.alloc o, fun b hb => ?_, hB.trans ((Below.refl _ _).alloc (by omega) _)⟩
  rw [show (wr.alloc o).heap.size = wr.heap.size + 1 by simp]
  rcases hb with hb | hb | hb
  · have := hF b (.inl hb); exact ⟨by omega, this.2⟩
  · have := hF b (.inr hb); exact ⟨by omega, this.2⟩
  · subst hb; exact ⟨by omega, (hM.farNew (Nat.le_refl _)).2⟩
theorem Sr.start {w' : World} (hN : NewM w1 src dead ia ib (.returned (.pointer (some ⟨w1.heap.size, 0, none⟩))) w') : Sr w1 w1.heap.size src dead ia ib VV (fun _ => False) 0 w' := by
  obtain ⟨_, hM, hB⟩ := hN
  refine ⟨_, _, hM, fun b hb => ?_, hB⟩
  rcases hb with hb | hb
  · have := hM.pm.lt; exact ⟨by omega, by omega, by simp [Value.ownBlock], by simp⟩
  · exact hb.elim
theorem Sr.step (h : Sr w1 g src dead ia ib VV X k wr) (hk : k ≤ 1048576) {s : ByteArray} (hs : s = VV k) :
    Calls Tryd.prog 9 #[.pointer (some ⟨g, 0, none⟩), .string s] wr (fun e w' => e = .returned (.agg #[.int .u32 src, .int .u32 (idx (runL dead VV k) (VV k) : Nat)]) ∧ Sr w1 g src dead ia ib VV X (k + 1) w' ∧ wr.heap.size ≤ w'.heap.size ∧ ∀ b, b < g ∨ X b → w'.heap[b]? = wr.heap[b]?) := by
  subst hs
  obtain ⟨sv, m, hM, hF, hB⟩ := h
  have hl := len_run dead VV k
  refine (sym9 wr g src dead ia ib _ sv m (VV k) hM (by omega) (fun x hx => by have := use_le hx; omega)).mono ?_
  rintro e w' ⟨rfl, sv', m', hM', hK⟩
  refine ⟨rfl, ⟨sv', m', hM', fun b hb => ?_, hB.trans ⟨hK.os, hK.tape, hK.output, hK.size, fun b hb => ?_⟩⟩, hK.size, fun b hb => ?_⟩
  · obtain ⟨h1, h2⟩ := hF b hb
    exact ⟨Nat.lt_of_lt_of_le h1 hK.size, (hK.far b h1 h2).1⟩
  · obtain ⟨h1, h2⟩ := hF b (.inl hb)
    exact (hK.far b h1 h2).2
  · obtain ⟨h1, h2⟩ := hF b hb
    exact (hK.far b h1 h2).2
theorem Sr.count (h : Sr w1 g src dead ia ib VV X k wr) : Calls Tryd.prog 10 #[.pointer (some ⟨g, 0, none⟩)] wr (fun e w' => e = .returned (.int .i64 (runL dead VV k).length) ∧ w' = wr) := by
  obtain ⟨sv, m, hM, hF, hB⟩ := h
  exact count10 wr g src dead ia ib _ sv m hM
theorem Sr.allocs (h : Sr w1 g src dead ia ib VV X k wr) : Calls Tryd.prog 13 #[.pointer (some ⟨g, 0, none⟩)] wr (fun e w' => e = .returned (.int .i64 0) ∧ w' = wr) := by
  obtain ⟨sv, m, hM, hF, hB⟩ := h
  exact alloc13 wr g src dead ia ib _ sv m hM
theorem Sr.read (h : Sr w1 g src dead ia ib VV X k wr) {i u : Nat} {s : ByteArray} (hi : (runL dead VV k)[i]? = some (s, u)) :
    Calls Tryd.prog 11 #[.pointer (some ⟨g, 0, none⟩), .int .i64 i] wr (fun e w' => e = .returned (.tuple #[.int .u8 24, .string s, .int .u32 u]) ∧ Sr w1 g src dead ia ib VV X k w' ∧ Below wr.heap.size wr w') := by
  have h' := h
  obtain ⟨sv, m, hM, hF, hB⟩ := h
  refine (read11 wr g src dead ia ib _ sv m hM i u s hi).mono ?_
  rintro e w' ⟨rfl, hb⟩
  exact ⟨rfl, h'.below hb, hb⟩
end
theorem run_congr {dead : Bool} {V V' : Nat → ByteArray} : ∀ k, (∀ i, i < k → V i = V' i) → runL dead V k = runL dead V' k
  | 0, _ => rfl
  | k + 1, h => by simp only [runL]; rw [run_congr k (fun i hi => h i (by omega)), h k (by omega)]
/-- The names, twice. -/
def twice (V : Nat → ByteArray) (len i : Nat) : ByteArray := if i < len then V i else V (i - len)
theorem twice_lo {V : Nat → ByteArray} {len i : Nat} (h : i < len) : V i = twice V len i := by simp [twice, h]
theorem twice_hi {V : Nat → ByteArray} {len i : Nat} : V i = twice V len (len + i) := by unfold twice; rw [if_neg (by omega)]; congr 1; omega
/-- The second time each name has the place it had the first time. -/
theorem again_idx {dead : Bool} {V : Nat → ByteArray} {len i : Nat} (h : i < len) : idx (runL dead (twice V len) (len + i)) (twice V len (len + i)) = idx (runL dead (twice V len) i) (twice V len i) := by
  rw [← twice_hi, ← twice_lo h]
  have h1 : pos (runL dead (twice V len) (i + 1)) (V i) = some (idx (runL dead (twice V len) i) (V i)) := by
    simp only [runL]; rw [← twice_lo h]; exact pos_next_self _ _ _
  have h2 := pos_run_keep h1 (len - 1)
  rw [show i + 1 + (len - 1) = len + i by omega] at h2
  simp [idx, h2]
theorem again_len {dead : Bool} {V : Nat → ByteArray} {len : Nat} : ∀ i, i ≤ len → (runL dead (twice V len) (len + i)).length = (runL dead (twice V len) len).length
  | 0, _ => rfl
  | i + 1, h => by
    have h1 : pos (runL dead (twice V len) (i + 1)) (V i) = some (idx (runL dead (twice V len) i) (V i)) := by
      simp only [runL]; rw [← twice_lo (by omega)]; exact pos_next_self _ _ _
    have h2 := pos_run_keep h1 (len - 1)
    rw [show i + 1 + (len - 1) = len + i by omega] at h2
    rw [← again_len i (by omega)]
    show (next dead (runL dead (twice V len) (len + i)) (twice V len (len + i))).length = _
    rw [← twice_hi]
    exact len_next_old h2
theorem cnt_twice {V : Nat → ByteArray} {len : Nat} (s : ByteArray) : ∀ i, i ≤ len → cntV (twice V len) s (len + i) = cntV (twice V len) s len + cntV (twice V len) s i
  | 0, _ => rfl
  | i + 1, h => by
    have := cnt_twice (V := V) (len := len) s i (by omega)
    show cntV (twice V len) s (len + i) + _ = _
    rw [this]
    show _ = cntV (twice V len) s len + (cntV (twice V len) s i + _)
    have e1 : twice V len (len.add i) = V i := twice_hi.symm
    rw [e1, ← twice_lo (show i < len by omega)]; omega
theorem again_use {dead : Bool} {V : Nat → ByteArray} {len k : Nat} {s : ByteArray} {u : Nat} (h : (runL dead (twice V len) len)[k]? = some (s, u)) : ∃ v, (runL dead (twice V len) (len + len))[k]? = some (s, v) ∧ v = if dead then 0 else u * 2 := by
  obtain ⟨v, hv⟩ := name_keep h len
  refine ⟨v, hv, ?_⟩
  have h1 := (good dead (twice V len) len).use _ _ _ h
  have h2 := (good dead (twice V len) (len + len)).use _ _ _ hv
  rw [cnt_twice s len (Nat.le_refl _)] at h2
  cases dead <;> simp at * <;> omega
end Go.Proofs.YtcalijmopeebgaaDoor.mp
