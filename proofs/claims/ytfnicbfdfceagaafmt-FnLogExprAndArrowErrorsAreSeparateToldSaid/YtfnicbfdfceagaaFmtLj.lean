/-
  The log is closed: its messages, in some order.
-/
import Derived.Test.YtfnicbfdfceagaaFmtLz
import Derived.Test.YtfnicbfdfceagaaFmtLf
namespace Go.Proofs.YtfnicbfdfceagaaFmt.lg
open Go.ChangeShapes Go.WideShapes Go.ChangeAt Go.RowKit Go.Deep Go.MuLone
set_option linter.unusedVariables false
set_option linter.unusedSimpArgs false
set_option maxRecDepth 100000
set_option maxHeartbeats 4000000
theorem flatM_length (M : List Ms) : (flatM M).length = M.length * 8 := by
  induction M with
  | nil => rfl
  | cons m M ih => rw [show flatM (m :: M) = m.cells ++ flatM M from rfl, List.length_append, ih, List.length_cons]; simp [Ms.cells]; omega
theorem flatM_get : ∀ (M : List Ms) (i c : Nat) (h : i < M.length) (hc : c < 8), (flatM M)[i * 8 + c]? = (M[i].cells)[c]?
  | m :: M, 0, c, h, hc => by
    rw [show flatM (m :: M) = m.cells ++ flatM M from rfl, List.getElem?_append_left (by simp [Ms.cells]; omega)]; simp
  | m :: M, i + 1, c, h, hc => by
    rw [show flatM (m :: M) = m.cells ++ flatM M from rfl, List.getElem?_append_right (by simp [Ms.cells]; omega)]
    rw [show (i + 1) * 8 + c - m.cells.length = i * 8 + c by simp [Ms.cells]; omega]
    exact flatM_get M i c (by simpa using h) hc
theorem rowM_of {w : World} {D rb n cap : Nat} {M : List Ms} {v : Value} (hv : v = .slice (some ⟨rb, 0, none⟩) n cap) (hn : n = M.length) (h : w.ownsRow D 178 8 v M.length (flatM M)) : RowM w rb M := by
  obtain ⟨h1, h | ⟨g, cap', cur, e, hb, hh, h2, h3, h4, h5⟩⟩ := h
  · rw [h.1] at hv; cases hv
  · rw [hv] at e
    cases e
    have cell : ∀ i c (hi : i < M.length), c < 8 → w.cell? ⟨rb, i * 8 + c, none⟩ = (M[i].cells)[c]? := fun i c hi hc => by
      rw [cell_of_row w _ _ _ _ _ hh, ← flatM_get M i c hi hc, ← h5, List.getElem?_take, if_pos (by omega)]
      simp
    refine ⟨fun i hi => ⟨?_, ?_, ?_, ?_, ?_, ?_, ?_, ?_⟩, fun q => frozen_of_row w _ _ _ _ hh⟩
    · exact cell i 0 hi (by omega)
    · exact cell i 1 hi (by omega)
    · exact cell i 2 hi (by omega)
    · exact cell i 3 hi (by omega)
    · exact cell i 4 hi (by omega)
    · exact cell i 5 hi (by omega)
    · exact cell i 6 hi (by omega)
    · exact cell i 7 hi (by omega)
/-- The messages as handed out. -/
structure Res (w : World) (D : Nat) (g : Option Addr) (M : List Ms) : Prop where
  row : M ≠ [] → ∃ rb, g = some ⟨rb, 0, none⟩ ∧ D ≤ rb ∧ RowM w rb M
  loc : ∀ m ∈ M, LocOk w m.g m.len ∧ D ≤ m.g
def DoneP (w : World) (D : Nat) (M : List Ms) (e : Ending) (w' : World) : Prop :=
  ∃ g cap M', e = .returned (.slice g M.length cap) ∧ M'.Perm M ∧ Res w' D g M' ∧ Below D w w'
/-- What the sort leaves, whatever the row. -/
def SortP (w : World) (D bs bm : Nat) (g : Option Addr) (M : List Ms) (w' : World) : Prop :=
  Below D w w' ∧ w.heap.size ≤ w'.heap.size ∧ (∀ k, k < w.heap.size → (Value.slice g M.length 0).ownBlock ≠ some k → w'.heap[k]? = w.heap[k]?) ∧ ∃ M', M'.Perm M ∧ Res w' D g M'
theorem sort_any (w : World) (D bk bs bm bh b : Nat) (M : List Ms) (v : Value) (l : Lg w D b bk bs bm bh v M) (hn : M.length ≤ 1048576) :
    ∃ g cap, v = .slice g M.length cap ∧ ∀ w1, Touch (fun k => k = bm) w w1 → Calls Tryf.prog 26 #[.iface 182 (.slice g M.length cap)] w1 fun e w' => e = .returned (.tuple #[]) ∧ SortP w1 D bs bm g M w' := by
  obtain ⟨o0, o1, o2, o3, o4⟩ := l.bl
  have hl := l.lts
  rcases l.row.2 with ⟨hv, hz⟩ | ⟨rb, cap, cur, e, hb, hh, r⟩
  · refine ⟨none, 0, by rw [hv, hz], fun w1 t => ?_⟩
    have hM : M = [] := List.length_eq_zero_iff.1 hz
    subst hM
    refine (stable26 (fun w' => w' = w1) none 0 0 ⟨fun w i j _ h => absurd h (by omega), fun w i j _ h => absurd h (by omega)⟩ (by omega) w1 rfl).mono ?_
    rintro e w' ⟨rfl, rfl⟩
    exact ⟨rfl, Below.refl _ _, Nat.le_refl _, fun _ _ _ => rfl, [], List.Perm.refl _, fun h => absurd rfl h, fun m hm => by cases hm⟩
  · refine ⟨some ⟨rb, 0, none⟩, cap, e, fun w1 t => ?_⟩
    have hrb : rb < w.heap.size := lt_of_block hh
    have f := l.far rb (by rw [e]; rfl)
    have hR0 : RowM w rb M := rowM_of e rfl l.row
    have hR : RowM w1 rb M := hR0.of_block (t.block rb hrb (by omega))
    have hL : ∀ m ∈ M, LocOk w1 m.g m.len ∧ m.g ≠ rb := fun m hm => by
      obtain ⟨a1, a2, a3, a4, a5, a6, a7⟩ := l.loc m hm
      refine ⟨a1.of_block (t.block m.g a1.lt a4), fun h => a7 ?_⟩
      rw [e, h]; rfl
    refine (stable26 (JM w1 rb M) (some ⟨rb, 0, none⟩) M.length cap (srt w1 rb cap M hn hL) hn w1 ⟨M, List.Perm.refl _, hR, Touch.refl _ _⟩).mono ?_
    rintro e' w' ⟨rfl, M', hp, R', t'⟩
    refine ⟨rfl, t'.below (by have := t.size; omega) (fun k hk => by omega), t'.size, fun k hk hne => t'.block k hk (fun h => hne (by rw [h]; rfl)), M', hp, ⟨fun _ => ⟨rb, rfl, hb, R'⟩, fun m hm => ?_⟩⟩
    have hm' := hp.mem_iff.1 hm
    obtain ⟨h1, h2⟩ := hL m hm'
    exact ⟨h1.of_block (t'.block m.g h1.lt h2), (l.loc m hm').2.1⟩
end Go.Proofs.YtfnicbfdfceagaaFmt.lg
