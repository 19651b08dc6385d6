/-
  The Joiner: plain facts on lists of parts, and what a Joiner's memory holds.
-/
import Derived.Test.YthcfdoaeefnemaaJn
import Derived.Laws.CopyOwn
import Derived.Lib.BufferWrite
namespace Go.Proofs.Ythcfdoaeefnemaa.jn
open Go.ChangeShapes Go.WideShapes Go.ChangeAt Go.RowKit Go.Deep Go.Lib
set_option linter.unusedVariables false

/-- A part that was added as a slice: its value, its bytes, its place. -/
structure BItem where
  a : Option Addr
  n : Nat
  c : Nat
  B : List UInt8
  off : Nat
def flatS : List (ByteArray × Nat) → List Value
  | [] => []
  | p :: S => .string p.1 :: .int .u32 p.2 :: flatS S
def flatY : List BItem → List Value
  | [] => []
  | y :: Y => .slice y.a y.n y.c :: .int .u32 y.off :: flatY Y
theorem flatS_snoc (S : List (ByteArray × Nat)) (p : ByteArray × Nat) : flatS (S ++ [p]) = flatS S ++ [.string p.1, .int .u32 p.2] := by
  induction S with
  | nil => rfl
  | cons q S ih => simp [flatS, ih]
theorem flatY_snoc (Y : List BItem) (y : BItem) : flatY (Y ++ [y]) = flatY Y ++ [.slice y.a y.n y.c, .int .u32 y.off] := by
  induction Y with
  | nil => rfl
  | cons q Y ih => simp [flatY, ih]
theorem flatS_get (S : List (ByteArray × Nat)) : ∀ (i : Nat) (p : ByteArray × Nat), S[i]? = some p → (flatS S)[i * 2]? = some (.string p.1) ∧ (flatS S)[i * 2 + 1]? = some (.int .u32 p.2) := by
  induction S with
  | nil => intro i p h; simp at h
  | cons q S ih =>
    intro i p h
    cases i with
    | zero => simp at h; subst h; simp [flatS]
    | succ i =>
      simp at h
      obtain ⟨h1, h2⟩ := ih i p h
      rw [show (i + 1) * 2 = i * 2 + 1 + 1 by omega]
      simp only [flatS, List.getElem?_cons_succ]
      exact ⟨h1, h2⟩
theorem flatY_get (Y : List BItem) : ∀ (i : Nat) (p : BItem), Y[i]? = some p → (flatY Y)[i * 2]? = some (.slice p.a p.n p.c) ∧ (flatY Y)[i * 2 + 1]? = some (.int .u32 p.off) := by
  induction Y with
  | nil => intro i p h; simp at h
  | cons q Y ih =>
    intro i p h
    cases i with
    | zero => simp at h; subst h; simp [flatY]
    | succ i =>
      simp at h
      obtain ⟨h1, h2⟩ := ih i p h
      rw [show (i + 1) * 2 = i * 2 + 1 + 1 by omega]
      simp only [flatY, List.getElem?_cons_succ]
      exact ⟨h1, h2⟩

/-- The parts I (bytes, place) make up the text T. -/
def Good (I : List (List UInt8 × Nat)) (T : List UInt8) : Prop :=
  (∀ p ∈ I, p.2 + p.1.length ≤ T.length ∧ ∀ i, i < p.1.length → T[p.2 + i]? = p.1[i]?) ∧ ∀ q, q < T.length → ∃ p ∈ I, p.2 ≤ q ∧ q < p.2 + p.1.length
theorem Good.nil : Good [] [] := ⟨by simp, by simp⟩
theorem Good.add {I I' : List (List UInt8 × Nat)} {T s : List UInt8} (h : Good I T) (e : ∀ p, p ∈ I' ↔ p ∈ I ∨ p = (s, T.length)) : Good I' (T ++ s) := by
  refine ⟨fun p hp => ?_, fun q hq => ?_⟩
  · rcases (e p).1 hp with hp | rfl
    · obtain ⟨h1, h2⟩ := h.1 p hp
      refine ⟨by simp; omega, fun i hi => ?_⟩
      rw [List.getElem?_append_left (by omega)]
      exact h2 i hi
    · refine ⟨by simp, fun i hi => ?_⟩
      rw [List.getElem?_append_right (by simp)]
      simp
  · by_cases hq2 : q < T.length
    · obtain ⟨p, hp, h3⟩ := h.2 q hq2
      exact ⟨p, (e p).2 (.inl hp), h3⟩
    · exact ⟨(s, T.length), (e _).2 (.inr rfl), by simp at hq ⊢; omega⟩
/-- The text l agrees with T wherever one of the parts I lies. -/
def Agree (I : List (List UInt8 × Nat)) (T l : List UInt8) : Prop := l.length = T.length ∧ ∀ p ∈ I, ∀ i, i < p.1.length → l[p.2 + i]? = T[p.2 + i]?
theorem splice_get {l s : List UInt8} {off : Nat} (h : off + s.length ≤ l.length) (i : Nat) : (splice l off s)[i]? = if off ≤ i ∧ i < off + s.length then s[i - off]? else l[i]? := by
  unfold splice
  by_cases h1 : i < off
  · rw [if_neg (by omega), List.getElem?_append_left (by simp; omega), List.getElem?_take, if_pos h1]
  · rw [List.getElem?_append_right (by simp; omega)]
    have e : (List.take off l).length = off := by simp; omega
    rw [e]
    by_cases h2 : i < off + s.length
    · rw [if_pos ⟨by omega, h2⟩, List.getElem?_append_left (by omega)]
    · rw [if_neg (by omega), List.getElem?_append_right (by omega), List.getElem?_drop]
      congr 1; omega
theorem Agree.step {I : List (List UInt8 × Nat)} {T l : List UInt8} {p : List UInt8 × Nat} (h : Agree I T l) (h1 : p.2 + p.1.length ≤ T.length) (h2 : ∀ i, i < p.1.length → T[p.2 + i]? = p.1[i]?) :
    Agree (I ++ [p]) T (splice l p.2 p.1) := by
  have hl : p.2 + p.1.length ≤ l.length := by rw [h.1]; exact h1
  refine ⟨by rw [length_splice _ _ _ hl]; exact h.1, fun q hq i hi => ?_⟩
  rw [splice_get hl]
  by_cases hc : p.2 ≤ q.2 + i ∧ q.2 + i < p.2 + p.1.length
  · rw [if_pos hc]
    have := h2 (q.2 + i - p.2) (by omega)
    rw [← this]; congr 1; omega
  · rw [if_neg hc]
    rcases List.mem_append.1 hq with hq | hq
    · exact h.2 q hq i hi
    · simp at hq; subst hq; omega
theorem Agree.all {I : List (List UInt8 × Nat)} {T l : List UInt8} (h : Agree I T l) (g : Good I T) : l = T := by
  apply List.ext_getElem?
  intro i
  by_cases hi : i < T.length
  · obtain ⟨p, hp, h1, h2⟩ := g.2 i hi
    have := h.2 p hp (i - p.2) (by omega)
    rw [show p.2 + (i - p.2) = i by omega] at this
    exact this
  · rw [List.getElem?_eq_none (by rw [h.1]; omega), List.getElem?_eq_none (by omega)]

def itS (S : List (ByteArray × Nat)) : List (List UInt8 × Nat) := S.map fun p => (p.1.data.toList, p.2)
def itY (Y : List BItem) : List (List UInt8 × Nat) := Y.map fun y => (y.B, y.off)

/-- A slice of n elements, V i at place i; of an empty one nothing is said. -/
def Row (w : World) (a : Option Addr) (n : Nat) (V : Nat → Value) : Prop := 0 < n → ∃ b off, a = some ⟨b, off, none⟩ ∧ ∀ i, i < n → w.cell? ⟨b, off + i, none⟩ = some (V i)
theorem Row.below {w w' : World} {a : Option Addr} {n : Nat} {V : Nat → Value} (h : Row w a n V) (hb : Below w.heap.size w w') : Row w' a n V := by
  intro h0
  obtain ⟨b, off, rfl, hc⟩ := h h0
  refine ⟨b, off, rfl, fun i hi => ?_⟩
  have h1 := hc i hi
  exact (hb.cell (p := ⟨b, off + i, none⟩) (block_lt_of_cell h1)).trans h1
/-- The same, all of it below block D. -/
def RowD (w : World) (D : Nat) (a : Option Addr) (n : Nat) (V : Nat → Value) : Prop := 0 < n → ∃ b off, a = some ⟨b, off, none⟩ ∧ b < D ∧ ∀ i, i < n → w.cell? ⟨b, off + i, none⟩ = some (V i)
theorem RowD.row {w : World} {D : Nat} {a : Option Addr} {n : Nat} {V : Nat → Value} (h : RowD w D a n V) : Row w a n V := fun h0 => by
  obtain ⟨b, off, h1, _, h2⟩ := h h0; exact ⟨b, off, h1, h2⟩
theorem RowD.below {w w' : World} {D B : Nat} {a : Option Addr} {n : Nat} {V : Nat → Value} (h : RowD w D a n V) (hb : Below B w w') (hB : D ≤ B) : RowD w' D a n V := by
  intro h0
  obtain ⟨b, off, rfl, hD, hc⟩ := h h0
  exact ⟨b, off, rfl, hD, fun i hi => (hb.cell (p := ⟨b, off + i, none⟩) (Nat.lt_of_lt_of_le hD hB)).trans (hc i hi)⟩
def byteAt (T : List UInt8) (i : Nat) : Value := .int .u8 (T.getD i 0).toNat

/-- A Joiner at block g, its rows gs and gb, holds the string parts S and the slice parts Y, which make up the text T. -/
def Jn (w : World) (D g : Nat) (gs gb : Option Nat) (S : List (ByteArray × Nat)) (Y : List BItem) (T : List UInt8) : Prop :=
  ∃ sv bv, JB w g sv bv T.length (lastOf T 0) ∧ w.ownsRow D 47 2 sv S.length (flatS S) ∧ sv.ownBlock = gs ∧ w.ownsRow D 49 2 bv Y.length (flatY Y) ∧ bv.ownBlock = gb ∧
    gs ≠ some g ∧ gb ≠ some g ∧ (∀ k, gs = some k → gb ≠ some k) ∧ D ≤ g ∧ Good (itS S ++ itY Y) T ∧ ∀ y ∈ Y, y.n = y.B.length ∧ RowD w D y.a y.n (byteAt y.B)
theorem lastOf_append (T s : List UInt8) (x : Int) : lastOf (T ++ s) x = lastOf s (lastOf T x) := by
  unfold lastOf
  rw [List.getLast?_append]
  cases s.getLast? <;> simp
theorem Jn.lt {w : World} {D g : Nat} {gs gb : Option Nat} {S : List (ByteArray × Nat)} {Y : List BItem} {T : List UInt8} (h : Jn w D g gs gb S Y T) : g < w.heap.size := by
  obtain ⟨sv, bv, h1, _⟩ := h; exact h1.lt
theorem ownBlock_lt {w : World} {D E n : Nat} {v : Value} {xs : List Value} (h : w.ownsRow D E 2 v n xs) {k : Nat} (e : v.ownBlock = some k) : D ≤ k ∧ k < w.heap.size := h.lt k e
/-- What a Joiner holds stays where its own blocks are not touched. -/
theorem Jn.keep {w w' : World} {D g : Nat} {gs gb : Option Nat} {S : List (ByteArray × Nat)} {Y : List BItem} {T : List UInt8} (h : Jn w D g gs gb S Y T) {F : Nat → Prop} (ht : Touch F w w')
    (h1 : ¬ F g) (h2 : ∀ k, gs = some k → ¬ F k) (h3 : ∀ k, gb = some k → ¬ F k) (hF : ∀ k, F k → D ≤ k) : Jn w' D g gs gb S Y T := by
  obtain ⟨sv, bv, a1, a2, rfl, a4, rfl, a6, a7, a8, a9, a10, a11⟩ := h
  have keep : ∀ {E n : Nat} {v : Value} {xs : List Value}, w.ownsRow D E 2 v n xs → (∀ k, v.ownBlock = some k → ¬ F k) → w'.ownsRow D E 2 v n xs := by
    intro E n v xs ho hk
    refine ⟨ho.1, ?_⟩
    rcases ho.2 with h | ⟨g, cap, cur, rfl, hb, hh, r⟩
    · exact .inl h
    · exact .inr ⟨g, cap, cur, rfl, hb, (ht.block g (lt_of_block hh) (hk g rfl)).trans hh, r⟩
  have hDs : D ≤ w.heap.size := Nat.le_of_lt (Nat.lt_of_le_of_lt a9 a1.lt)
  exact ⟨sv, bv, a1.of_block (ht.block g a1.lt h1), keep a2 h2, rfl, keep a4 h3, rfl, a6, a7, a8, a9, a10, fun y hy => ⟨(a11 y hy).1, (a11 y hy).2.below (ht.below hDs hF) (Nat.le_refl _)⟩⟩
/-- A new Joiner. -/
theorem Jn.new (w : World) (D : Nat) (hD : D ≤ w.heap.size) : Jn (w.alloc (.cells #[.slice none 0 0, .slice none 0 0, .int .u32 0, .int .u8 0] 30)) D w.heap.size none none [] [] [] :=
  ⟨_, _, heap_alloc_new w _, World.ownsRow_nil _ _ _ _, rfl, World.ownsRow_nil _ _ _ _, rfl, by simp, by simp, by simp, hD, Good.nil, by simp⟩
end Go.Proofs.Ythcfdoaeefnemaa.jn
