/-
  The new parser: with an empty log.
-/
import Derived.Test.YtfnicbfdfceagaaFmtLk
import Derived.Test.YtfnicbfdfceagaaFmtLa
namespace Go.Proofs.YtfnicbfdfceagaaFmt.lg
open Go.ChangeShapes Go.WideShapes Go.ChangeAt Go.RowKit Go.Deep Go.MuLone
set_option linter.unusedVariables false
set_option linter.unusedSimpArgs false
set_option maxRecDepth 100000
set_option maxHeartbeats 4000000
theorem lgOf {w : World} {N D b : Nat} (h : nw.LF w N) (hD : D ≤ N) (hb : N + 4 < b) : Lg w D b N (N + 2) (N + 3) (N + 4) (.slice none 0 0) [] :=
  ⟨⟨hD, by omega, by omega, by omega, hb⟩, h.kind, h.mu, h.muz, ⟨false, h.has⟩, h.hasz, h.msgs, h.msgz, World.ownsRow_nil _ _ _ _, fun k hk => by simp [Value.ownBlock] at hk, fun m hm => by cases hm⟩
def NewP (w : World) (s : ByteArray) (e : Ending) (w' : World) : Prop := ∃ b bk bs bm bh, e = .returned (ptr b 0) ∧ PL w' w.heap.size b bk bs bm bh s [] ∧ Below w.heap.size w w'
theorem new10 (w : World) (s : ByteArray) : Calls Tryf.prog 10 #[.string s] w (NewP w s) := by
  refine (nw.new10 w s).mono ?_
  rintro e w' ⟨b, N, rfl, h1, h2, lf, hb, bl⟩
  obtain ⟨a51, a52, a53, a54, a55, a56, a60, a67, a68, a69, a70, a71, a72, a73, a74, a75, a76⟩ := nw.newC_at N (N + 2) (N + 3) (N + 4) s
  have c : ∀ q, w'.cell? ⟨b, q, none⟩ = (nw.newC N (N + 2) (N + 3) (N + 4) s)[q]? := fun q => cell_of_row _ _ _ _ _ _ hb
  refine ⟨b, N, N + 2, N + 3, N + 4, rfl, ⟨⟨(c _).trans a51, (c _).trans a52, (c _).trans a53, (c _).trans a54, (c _).trans a55, (c _).trans a56, (c _).trans a60⟩, ?_, _, lgOf lf h1 h2⟩, bl⟩
  exact ⟨0, 0, 0, 0, true, false, ⟨(c _).trans a67, (c _).trans a68, (c _).trans a69, (c _).trans a70, (c _).trans a71, (c _).trans a72, (c _).trans a73, (c _).trans a74, (c _).trans a75, (c _).trans a76, fun q => frozen_of_row _ _ _ _ _ hb⟩, ⟨Nat.zero_le _, fun _ => ⟨Nat.le_refl _, Or.inl rfl⟩, fun h => by cases h⟩⟩
end Go.Proofs.YtfnicbfdfceagaaFmt.lg
