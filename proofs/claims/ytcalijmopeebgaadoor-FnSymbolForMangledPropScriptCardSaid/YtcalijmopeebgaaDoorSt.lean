/-
  Mangled properties: the law over a script, its state from round to round.
-/
import Derived.Test.YtcalijmopeebgaaDoorSk
namespace Go.Proofs.YtcalijmopeebgaaDoor.mp
open Go.ChangeShapes Go.WideShapes Go.ChangeAt Go.RowKit Go.Deep Go.Proofs.YtcalijmopeebgaaDoor.mk
set_option linter.unusedVariables false
set_option linter.unusedSimpArgs false

/-- The law's state at the head of round k. -/
def Sh (w1 : World) (src : Int) (dead : Bool) (ia ib : Int) (V : Nat → ByteArray) (k n fb c1 cb c2 : Nat) (wr : World) : Prop :=
  n = (runL dead V k).length ∧ Sl w1 w1.heap.size src dead ia ib V k n (NamesL (runL dead V k)) n (CountsL V k (runL dead V k)) fb c1 cb c2 wr
/-- The law's state behind the search of round k. -/
def Sg (w1 : World) (src : Int) (dead : Bool) (ia ib : Int) (V : Nat → ByteArray) (k n fb c1 cb c2 : Nat) (wr : World) : Prop :=
  n = (add (runL dead V k) (V k)).length ∧ Sl w1 w1.heap.size src dead ia ib V k n (NamesL (add (runL dead V k) (V k))) n (CountsL V k (add (runL dead V k) (V k))) fb c1 cb c2 wr
section
variable {w1 wr : World} {src : Int} {dead : Bool} {ia ib : Int} {V : Nat → ByteArray} {k n fb c1 cb c2 : Nat}
theorem Sh.le (h : Sh w1 src dead ia ib V k n fb c1 cb c2 wr) : n ≤ k := by rw [h.1]; exact len_run dead V k
theorem Sh.at (h : Sh w1 src dead ia ib V k n fb c1 cb c2 wr) {j : Nat} {x : ByteArray × Nat} (hx : (runL dead V k)[j]? = some x) : wr.cell? ⟨fb, j, none⟩ = some (.string x.1) ∧ wr.cell? ⟨cb, j, none⟩ = some (.int .u32 (cntV V x.1 k : Nat)) := by
  have hj : j < n := by
    rcases Nat.lt_or_ge j (runL dead V k).length with h1 | h1
    · rw [h.1]; exact h1
    · rw [List.getElem?_eq_none h1] at hx; cases hx
  exact ⟨(h.2.nameAt hj).trans (by simp [NamesL, hx]), (h.2.countAt hj).trans (by simp [CountsL, hx])⟩
theorem Sh.get (h : Sh w1 src dead ia ib V k n fb c1 cb c2 wr) {j : Nat} (hj : j < n) : ∃ x, (runL dead V k)[j]? = some x := ⟨_, List.getElem?_eq_getElem (by rw [← h.1]; exact hj)⟩
theorem Sh.found (h : Sh w1 src dead ia ib V k n fb c1 cb c2 wr) {j : Nat} (hp : pos (runL dead V k) (V k) = some j) : Sg w1 src dead ia ib V k n fb c1 cb c2 wr := by
  have e : add (runL dead V k) (V k) = runL dead V k := by simp [add, hp]
  unfold Sg; rw [e]; exact h
theorem Sh.app (h : Sh w1 src dead ia ib V k n fb c1 cb c2 wr) (hk : k ≤ 4096) (hp : pos (runL dead V k) (V k) = none) :
    ∃ fb' c1' w2, (Builtin.append_ #[22, 22] 22 #[.slice (some ⟨fb, 0, none⟩) n c1, .slice (some ⟨wr.heap.size, 0, none⟩) 1 1]).run Tryd.prog (wr.alloc (.cells #[.string (V k)] 9)) = .ok (.slice (some ⟨fb', 0, none⟩) (n + 1) c1') w2 ∧
      ∃ cb' c2' w3, (Builtin.append_ #[34, 34] 34 #[.slice (some ⟨cb, 0, none⟩) n c2, .slice (some ⟨w2.heap.size, 0, none⟩) 1 1]).run Tryd.prog (w2.alloc (.cells #[.int .u32 0] 28)) = .ok (.slice (some ⟨cb', 0, none⟩) (n + 1) c2') w3 ∧ Sg w1 src dead ia ib V k (n + 1) fb' c1' cb' c2' w3 := by
  have hle := h.le
  obtain ⟨fb', c1', w2, hr2, h2⟩ := h.2.app1 (V k) (by omega)
  refine ⟨fb', c1', w2, hr2, ?_⟩
  obtain ⟨cb', c2', w3, hr3, h3⟩ := h2.app2 (by omega)
  refine ⟨cb', c2', w3, hr3, ?_⟩
  have e : add (runL dead V k) (V k) = runL dead V k ++ [(V k, 0)] := by simp [add, hp]
  have ec := counts_add dead V k hp
  refine ⟨by rw [e, h.1]; simp, ?_⟩
  rw [ec, e]
  have en : NamesL (runL dead V k ++ [(V k, 0)]) = NamesL (runL dead V k) ++ [.string (V k)] := by simp [NamesL]
  rw [en]; exact h3
theorem Sg.idx (h : Sg w1 src dead ia ib V k n fb c1 cb c2 wr) : mp.idx (runL dead V k) (V k) < n := by rw [h.1]; exact idx_lt _ _
theorem add_idx (L : List (ByteArray × Nat)) (s : ByteArray) : ∃ u, (add L s)[idx L s]? = some (s, u) := by
  rcases hp : pos L s with _ | j
  · exact ⟨0, by rw [get_add, if_pos ⟨by simp [idx, hp], hp⟩]⟩
  · obtain ⟨u, hu⟩ := pos_some hp
    exact ⟨u, by rw [get_add, if_neg (by simp [hp])]; simpa [idx, hp] using hu⟩
theorem Sg.count (h : Sg w1 src dead ia ib V k n fb c1 cb c2 wr) : wr.cell? ⟨cb, mp.idx (runL dead V k) (V k), none⟩ = some (.int .u32 (cntV V (V k) k : Nat)) ∧ wr.frozen? ⟨cb, mp.idx (runL dead V k) (V k), none⟩ = false := by
  obtain ⟨u, hu⟩ := add_idx (runL dead V k) (V k)
  exact ⟨(h.2.countAt h.idx).trans (by simp [CountsL, hu]), h.2.countFree _⟩
theorem Sg.step (h : Sg w1 src dead ia ib V k n fb c1 cb c2 wr) (hk : k ≤ 4096) :
    Calls Tryd.prog 9 #[.pointer (some ⟨w1.heap.size, 0, none⟩), .string (V k)] (wr.setCell ⟨cb, mp.idx (runL dead V k) (V k), none⟩ (.int .u32 ((cntV V (V k) k : Nat) + 1))) (fun e w' => e = .returned (.agg #[.int .u32 src, .int .u32 (mp.idx (runL dead V k) (V k) : Nat)]) ∧ Sh w1 src dead ia ib V (k + 1) n fb c1 cb c2 w') := by
  have h1 := (h.2.setc h.idx (.int .u32 ((cntV V (V k) k : Nat) + 1))).step (by omega) rfl
  refine h1.mono ?_
  rintro e w' ⟨rfl, h2⟩
  refine ⟨rfl, ?_, ?_⟩
  · show n = (next dead (runL dead V k) (V k)).length
    rw [len_add]; exact h.1
  · have en : NamesL (runL dead V (k + 1)) = NamesL (add (runL dead V k) (V k)) := names_stepL _ _ _
    rw [en, counts_next]
    exact h2
theorem Sh.below {w' : World} (h : Sh w1 src dead ia ib V k n fb c1 cb c2 wr) (hb : Below wr.heap.size wr w') : Sh w1 src dead ia ib V k n fb c1 cb c2 w' := ⟨h.1, h.2.below hb⟩
theorem Sh.bel (h : Sh w1 src dead ia ib V k n fb c1 cb c2 wr) : Below w1.heap.size w1 wr := h.2.1.bel
theorem Sh.read (h : Sh w1 src dead ia ib V k n fb c1 cb c2 wr) {j u : Nat} {s : ByteArray} (hj : (runL dead V k)[j]? = some (s, u)) :
    Calls Tryd.prog 11 #[.pointer (some ⟨w1.heap.size, 0, none⟩), .int .i64 j] wr (fun e w' => e = .returned (.tuple #[.int .u8 24, .string s, .int .u32 u]) ∧ Sh w1 src dead ia ib V k n fb c1 cb c2 w') := by
  refine (h.2.1.read hj).mono ?_
  rintro e w' ⟨rfl, _, hb⟩
  exact ⟨rfl, h.below hb⟩
theorem Sh.cnt (h : Sh w1 src dead ia ib V k n fb c1 cb c2 wr) : Calls Tryd.prog 10 #[.pointer (some ⟨w1.heap.size, 0, none⟩)] wr (fun e w' => e = .returned (.int .i64 n) ∧ w' = wr) := by
  have := h.2.1.count; rw [← h.1] at this; exact this
theorem Sh.allocs (h : Sh w1 src dead ia ib V k n fb c1 cb c2 wr) : Calls Tryd.prog 13 #[.pointer (some ⟨w1.heap.size, 0, none⟩)] wr (fun e w' => e = .returned (.int .i64 0) ∧ w' = wr) := h.2.1.allocs
theorem Sh.name (h : Sh w1 src dead ia ib V k n fb c1 cb c2 wr) {j : Nat} (hj : j < n) : wr.cell? ⟨fb, j, none⟩ = some (.string (((runL dead V k)[j]?).getD (ByteArray.empty, 0)).1) := by
  obtain ⟨x, hx⟩ := h.get hj
  rw [(h.at hx).1, hx]; rfl
end
theorem pos_before {L : List (ByteArray × Nat)} {s : ByteArray} {j i : Nat} (h : pos L s = some j) (hi : i < j) : ((L[i]?).getD (ByteArray.empty, 0)).1 ≠ s := by
  have hl := pos_lt h
  obtain ⟨_, _, h3⟩ := List.findIdx?_eq_some_iff_getElem.1 h
  have := h3 i hi
  rw [List.getElem?_eq_getElem (by omega)]
  intro e; exact this ((bytes_beq _ _).2 e)
theorem pos_nothere {L : List (ByteArray × Nat)} {s : ByteArray} {i : Nat} (h : pos L s = none) (hi : i < L.length) : ((L[i]?).getD (ByteArray.empty, 0)).1 ≠ s := by
  unfold pos at h
  rw [List.findIdx?_eq_none_iff] at h
  rw [List.getElem?_eq_getElem hi]
  intro e
  have := h L[i] (List.getElem_mem hi)
  have e' : L[i].fst = s := e
  rw [(bytes_beq _ _).2 e'] at this; cases this
end Go.Proofs.YtcalijmopeebgaaDoor.mp
