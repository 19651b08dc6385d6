/-
  Mangled properties: the law over a script, walked.
-/
import Derived.Test.YtcalijmopeebgaaDoorSr
import Derived.Deep.AppendLies
import Derived.Deep.RegionWith
namespace Go.Proofs.YtcalijmopeebgaaDoor.mp
open Go.ChangeShapes Go.WideShapes Go.ChangeAt Go.RowKit Go.Deep Go.Proofs.YtcalijmopeebgaaDoor.mk
set_option linter.unusedVariables false
set_option linter.unusedSimpArgs false

section
variable {w1 wr : World} {g : Nat} {src : Int} {dead : Bool} {ia ib : Int} {VV : Nat → ByteArray} {X : Nat → Prop} {k : Nat}
/-- What touches nothing but blocks of X; the new blocks are none of the parser's. -/
theorem Sr.grow {w2 : World} (h : Sr w1 g src dead ia ib VV X k wr) (hX : ∀ b, X b → g ≤ b) (ht : Touch X wr w2) : Sr w1 g src dead ia ib VV (fun b => X b ∨ (wr.heap.size ≤ b ∧ b < w2.heap.size)) k w2 := by
  obtain ⟨sv, m, hM, hF, hB⟩ := h
  have hg := hM.pm.lt
  have hs := ht.size
  refine ⟨sv, m, hM.keep (fun b hlt hc => ht.block b hlt (fun hx => ?_)), fun b hb => ?_, hB.trans ⟨ht.os, ht.tape, ht.output, ht.size, fun b hlt => ht.block b (by omega) (fun hx => by have := hX b hx; omega)⟩⟩
  · have hf := (hF b (.inr hx)).2
    rcases hc with hc | hc | hc | hc
    · subst hc
      have := hX 0 hx
      exact hM.z.1 (by omega)
    · exact hf.1 hc
    · exact hf.2.1 hc
    · exact hf.2.2 hc
  · rcases hb with hb | hb | ⟨h1, h2⟩
    · have := hF b (.inl hb); exact ⟨by omega, this.2⟩
    · have := hF b (.inr hb); exact ⟨by omega, this.2⟩
    · exact ⟨h2, (hM.farNew h1).2⟩
theorem Sr.mono {Y : Nat → Prop} (h : Sr w1 g src dead ia ib VV X k wr) (hY : ∀ b, Y b → X b) : Sr w1 g src dead ia ib VV Y k wr := by
  obtain ⟨sv, m, hM, hF, hB⟩ := h
  exact ⟨sv, m, hM, fun b hb => hF b (hb.imp id (hY b)), hB⟩
end
/-- The law's own list of names, and its counts: the names as the parser has them; the counts as they would be in live code. -/
def NamesL (L : List (ByteArray × Nat)) : List Value := L.map (fun x => .string x.1)
noncomputable def CountsL (V : Nat → ByteArray) (k : Nat) (L : List (ByteArray × Nat)) : List Value := L.map (fun x => .int .u32 (cntV V x.1 k : Nat))
theorem names_stepL (dead : Bool) (L : List (ByteArray × Nat)) (k : Nat) : NamesL (stepL dead L k) = NamesL L := by
  apply List.ext_getElem?
  intro j
  simp only [NamesL, List.getElem?_map, get_stepL]
  cases L[j]? with
  | none => rfl
  | some x => simp; split <;> rfl
theorem names_next (dead : Bool) (L : List (ByteArray × Nat)) (s : ByteArray) : NamesL (next dead L s) = match pos L s with | some _ => NamesL L | none => NamesL L ++ [.string s] := by
  unfold next
  rw [names_stepL]
  unfold add
  rcases pos L s with _ | k <;> simp [NamesL]
theorem pos_first {L : List (ByteArray × Nat)} {s : ByteArray} {j u : Nat} (h : L[j]? = some (s, u)) (hn : ∀ i x, i < j → L[i]? = some x → x.1 ≠ s) : pos L s = some j := by
  unfold pos
  rw [List.findIdx?_eq_some_iff_getElem]
  have hlt : j < L.length := by
    rcases Nat.lt_or_ge j L.length with h1 | h1
    · exact h1
    · rw [List.getElem?_eq_none h1] at h; cases h
  rw [List.getElem?_eq_getElem hlt] at h
  refine ⟨hlt, ?_, fun i hi => ?_⟩
  · have := Option.some.inj h
    rw [this]; exact (bytes_beq s s).2 rfl
  · have := hn i L[i] hi (List.getElem?_eq_getElem (by omega))
    intro hb; exact this ((bytes_beq _ _).1 hb)
theorem pos_nowhere {L : List (ByteArray × Nat)} {s : ByteArray} (hn : ∀ i x, i < L.length → L[i]? = some x → x.1 ≠ s) : pos L s = none := by
  rcases hp : pos L s with _ | k
  · rfl
  · obtain ⟨u, hu⟩ := pos_some hp
    exact absurd rfl (hn k _ (pos_lt hp) hu)
theorem len_add (dead : Bool) (L : List (ByteArray × Nat)) (s : ByteArray) : (next dead L s).length = (add L s).length := by unfold next; rw [len_stepL]
theorem idx_lt (L : List (ByteArray × Nat)) (s : ByteArray) : idx L s < (add L s).length := by
  unfold idx add
  rcases hp : pos L s with _ | k
  · simp
  · simpa using pos_lt hp
/-- The counts after one name more: the one at its place has grown by one. -/
theorem counts_next (dead : Bool) (V : Nat → ByteArray) (k : Nat) :
    CountsL V (k + 1) (runL dead V (k + 1)) = (CountsL V k (add (runL dead V k) (V k))).set (idx (runL dead V k) (V k)) (.int .u32 ((cntV V (V k) k + 1 : Nat) : Int)) := by
  have g := good dead V k
  show CountsL V (k + 1) (next dead (runL dead V k) (V k)) = _
  generalize runL dead V k = L at *
  apply List.ext_getElem?
  intro j
  have hx := idx_lt L (V k)
  have hl := len_add dead L (V k)
  rcases hj : (next dead L (V k))[j]? with _ | ⟨s', u⟩
  · have h1 : (add L (V k)).length ≤ j := by rw [← hl]; exact List.getElem?_eq_none_iff.1 hj
    rw [List.getElem?_eq_none (by simp [CountsL]; omega), List.getElem?_eq_none (by simp [CountsL]; omega)]
  · have e1 : (CountsL V (k + 1) (next dead L (V k)))[j]? = some (.int .u32 (cntV V s' (k + 1) : Nat)) := by simp [CountsL, hj]
    rw [e1, List.getElem?_set]
    rcases get_next g.one hj with ⟨rfl, hi, _⟩ | ⟨hne, hL⟩
    · rw [if_pos hi.symm, if_pos (by simpa [CountsL] using hx)]
      simp [cntV]
    · have hjn : idx L (V k) ≠ j := by
        intro e
        have h2 := pos_next_self dead L (V k)
        rw [e] at h2
        obtain ⟨v, hv⟩ := pos_some h2
        rw [hj] at hv
        simp only [Option.some.injEq, Prod.mk.injEq] at hv
        exact hne hv.1
      rw [if_neg hjn]
      have hlt : j < L.length := by
        rcases Nat.lt_or_ge j L.length with h1 | h1
        · exact h1
        · rw [List.getElem?_eq_none h1] at hL; cases hL
      have h3 : (add L (V k))[j]? = some (s', u) := by rw [get_add, if_neg (by omega)]; exact hL
      have hne2 : ¬ V k = s' := fun h => hne h.symm
      simp [CountsL, h3, cntV, hne2]
theorem counts_add (dead : Bool) (V : Nat → ByteArray) (k : Nat) (h : pos (runL dead V k) (V k) = none) : CountsL V k (add (runL dead V k) (V k)) = CountsL V k (runL dead V k) ++ [.int .u32 0] := by
  have := (good dead V k).none _ h
  simp [CountsL, add, h, this]
end Go.Proofs.YtcalijmopeebgaaDoor.mp
