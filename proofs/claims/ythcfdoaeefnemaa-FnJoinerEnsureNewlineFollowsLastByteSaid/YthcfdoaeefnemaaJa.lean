/-
  The Joiner: the methods' contracts over what a Joiner holds.
-/
import Derived.Test.YthcfdoaeefnemaaJp
namespace Go.Proofs.Ythcfdoaeefnemaa.jn
open Go.ChangeShapes Go.WideShapes Go.ChangeAt Go.RowKit Go.Deep Go.Lib
set_option linter.unusedVariables false

theorem lastOf_cons {s : List UInt8} {x : Int} {n : Nat} (h : s.length = n) (h0 : 0 < n) : lastOf s x = ((s[n - 1]?.getD 0).toNat : Int) := by
  subst h
  unfold lastOf
  rw [List.getLast?_eq_getElem?]
  obtain ⟨c, hc⟩ : ∃ c, s[s.length - 1]? = some c := ⟨_, List.getElem?_eq_getElem (by omega)⟩
  rw [hc]; rfl
theorem lastOf_nil {s : List UInt8} {x : Int} (h : s.length = 0) : lastOf s x = x := by
  obtain rfl : s = [] := List.eq_nil_of_length_eq_zero h
  rfl
theorem size_list (s : ByteArray) : s.data.toList.length = s.size := by rw [Array.length_toList]; rfl
/-- What adding a part leaves. -/
def AddS (w : World) (D g : Nat) (gs gb : Option Nat) (S : List (ByteArray × Nat)) (Y : List BItem) (T : List UInt8) (s : ByteArray) (e : Ending) (w' : World) : Prop :=
  e = .returned (.tuple #[]) ∧ ∃ gs', Jn w' D g gs' gb (S ++ [(s, T.length)]) Y (T ++ s.data.toList) ∧ (gs' = gs ∨ ∃ k, gs' = some k ∧ w.heap.size ≤ k) ∧ Touch (fun j => j = g ∨ gs = some j) w w'
def AddB (w : World) (D g : Nat) (gs gb : Option Nat) (S : List (ByteArray × Nat)) (Y : List BItem) (T : List UInt8) (y : BItem) (e : Ending) (w' : World) : Prop :=
  e = .returned (.tuple #[]) ∧ ∃ gb', Jn w' D g gs gb' S (Y ++ [y]) (T ++ y.B) ∧ (gb' = gb ∨ ∃ k, gb' = some k ∧ w.heap.size ≤ k) ∧ Touch (fun j => j = g ∨ gb = some j) w w'
theorem keep_row {w w' : World} {F : Nat → Prop} (ht : Touch F w w') {D E n : Nat} {v : Value} {xs : List Value} (ho : w.ownsRow D E 2 v n xs) (hk : ∀ k, v.ownBlock = some k → ¬ F k) : w'.ownsRow D E 2 v n xs := by
  refine ⟨ho.1, ?_⟩
  rcases ho.2 with h | ⟨g, cap, cur, rfl, hb, hh, r⟩
  · exact .inl h
  · exact .inr ⟨g, cap, cur, rfl, hb, (ht.block g (lt_of_block hh) (hk g rfl)).trans hh, r⟩

theorem addS_of {w w' : World} {D g : Nat} {sv bv : Value} {S : List (ByteArray × Nat)} {Y : List BItem} {T : List UInt8} {s : ByteArray} {e : Ending} {last : Int} {q : Nat}
    (h : JB w g sv bv T.length (lastOf T 0)) (a2 : w.ownsRow D 47 2 sv S.length (flatS S)) (a4 : w.ownsRow D 49 2 bv Y.length (flatY Y)) (a6 : sv.ownBlock ≠ some g) (a7 : bv.ownBlock ≠ some g)
    (a8 : ∀ k, sv.ownBlock = some k → bv.ownBlock ≠ some k) (a9 : D ≤ g) (a10 : Good (itS S ++ itY Y) T) (a11 : ∀ y ∈ Y, y.n = y.B.length ∧ RowD w D y.a y.n (byteAt y.B))
    (hq : q = s.size) (hl : last = lastOf s.data.toList (lastOf T 0)) (hp : AddP w D g S.length sv bv T.length last (.string s) (flatS S) q e w') : AddS w D g sv.ownBlock bv.ownBlock S Y T s e w' := by
  obtain ⟨rfl, k, cap, j1, j2, j3, j4⟩ := hp
  have hkg : k ≠ g := by
    rcases j3 with h1 | h1
    · intro e; exact a6 (by rw [h1, e])
    · have := h.lt; omega
  have hD : D ≤ w.heap.size := Nat.le_of_lt (Nat.lt_of_le_of_lt a9 h.lt)
  have hF : ∀ k, (k = g ∨ sv.ownBlock = some k) → D ≤ k := by
    rintro k (rfl | h1)
    · exact a9
    · exact (ownBlock_lt a2 h1).1
  refine ⟨rfl, some k, ⟨.slice (some ⟨k, 0, none⟩) (S.length + 1) cap, bv, ?_, ?_, rfl, keep_row j4 a4 ?_, rfl, by simp [hkg], a7, ?_, a9, ?_, fun y hy => ⟨(a11 y hy).1, (a11 y hy).2.below (j4.below hD hF) (Nat.le_refl _)⟩⟩, ?_, j4⟩
  · rw [List.length_append, size_list, lastOf_append, ← hl, ← hq]
    simpa using j1
  · rw [flatS_snoc, List.length_append]; exact j2
  · rintro k h1 (rfl | h2)
    · exact a7 h1
    · exact a8 k h2 h1
  · rintro k' h1
    cases h1
    rcases j3 with h1 | h1
    · exact a8 k h1
    · intro h2; have := (ownBlock_lt a4 h2).2; omega
  · refine a10.add fun p => ?_
    simp only [itS, itY, List.map_append, List.map_cons, List.map_nil, List.mem_append, List.mem_singleton]
    constructor
    · rintro ((h1 | h1) | h1)
      · exact .inl (.inl h1)
      · exact .inr h1
      · exact .inl (.inr h1)
    · rintro ((h1 | h1) | h1)
      · exact .inl (.inl h1)
      · exact .inr h1
      · exact .inl (.inr h1)
  · rcases j3 with h1 | h1
    · exact .inl h1.symm
    · exact .inr ⟨k, rfl, h1⟩
theorem addS (w : World) (D g : Nat) (gs gb : Option Nat) (S : List (ByteArray × Nat)) (Y : List BItem) (T : List UInt8) (s : ByteArray) (h : Jn w D g gs gb S Y T)
    (hT : T.length ≤ 1048576) (hs : s.size ≤ 1048576) (hn : S.length ≤ 1048576) : Calls Try.prog 10 #[.pointer (some ⟨g, 0, none⟩), .string s] w (AddS w D g gs gb S Y T s) := by
  obtain ⟨sv, bv, a1, a2, rfl, a4, rfl, a6, a7, a8, a9, a10, a11⟩ := h
  have hD : D ≤ w.heap.size := Nat.le_of_lt (Nat.lt_of_le_of_lt a9 a1.lt)
  by_cases h0 : s.size = 0
  · refine (add0 w D g S.length sv bv _ _ s _ a1 (by omega) (by omega) hs hn a2 a6 hD h0).mono fun e w' hp => ?_
    exact addS_of a1 a2 a4 a6 a7 a8 a9 a10 a11 h0.symm (lastOf_nil (by rw [size_list]; exact h0)).symm hp
  · refine (add1 w D g S.length sv bv _ _ s _ a1 (by omega) (by omega) hs hn a2 a6 hD (by omega) _ rfl).mono fun e w' hp => ?_
    refine addS_of a1 a2 a4 a6 a7 a8 a9 a10 a11 rfl ?_ hp
    rw [lastOf_cons (size_list s) (by omega)]
    congr 2
    rw [List.getElem?_eq_getElem (by rw [size_list]; omega), Option.getD_some]
    rfl
theorem addB_of {w w' : World} {D g : Nat} {sv bv : Value} {S : List (ByteArray × Nat)} {Y : List BItem} {T : List UInt8} {y : BItem} {e : Ending} {last : Int} {q : Nat}
    (h : JB w g sv bv T.length (lastOf T 0)) (a2 : w.ownsRow D 47 2 sv S.length (flatS S)) (a4 : w.ownsRow D 49 2 bv Y.length (flatY Y)) (a6 : sv.ownBlock ≠ some g) (a7 : bv.ownBlock ≠ some g)
    (a8 : ∀ k, sv.ownBlock = some k → bv.ownBlock ≠ some k) (a9 : D ≤ g) (a10 : Good (itS S ++ itY Y) T) (a11 : ∀ y ∈ Y, y.n = y.B.length ∧ RowD w D y.a y.n (byteAt y.B))
    (hy : y.n = y.B.length ∧ RowD w D y.a y.n (byteAt y.B)) (hoff : y.off = T.length)
    (hq : q = y.B.length) (hl : last = lastOf y.B (lastOf T 0)) (hp : AddbP w D g Y.length bv sv T.length last (.slice y.a y.n y.c) (flatY Y) q e w') : AddB w D g sv.ownBlock bv.ownBlock S Y T y e w' := by
  obtain ⟨rfl, k, cap, j1, j2, j3, j4⟩ := hp
  have hkg : k ≠ g := by
    rcases j3 with h1 | h1
    · intro e; exact a7 (by rw [h1, e])
    · have := h.lt; omega
  have hD : D ≤ w.heap.size := Nat.le_of_lt (Nat.lt_of_le_of_lt a9 h.lt)
  have hF : ∀ k, (k = g ∨ bv.ownBlock = some k) → D ≤ k := by
    rintro k (rfl | h1)
    · exact a9
    · exact (ownBlock_lt a4 h1).1
  refine ⟨rfl, some k, ⟨sv, .slice (some ⟨k, 0, none⟩) (Y.length + 1) cap, ?_, keep_row j4 a2 ?_, rfl, ?_, rfl, a6, by simp [hkg], ?_, a9, ?_, fun z hz => ?_⟩, ?_, j4⟩
  · rw [List.length_append, lastOf_append, ← hl, ← hq]
    simpa using j1
  · rintro k h1 (rfl | h2)
    · exact a6 h1
    · exact a8 k h1 h2
  · rw [flatY_snoc, List.length_append, hoff]; exact j2
  · rintro k' h1
    rcases j3 with h2 | h2
    · intro h3; cases h3; exact a8 k h1 h2
    · intro h3; cases h3; have := (ownBlock_lt a2 h1).2; omega
  · refine a10.add fun p => ?_
    simp only [itS, itY, List.map_append, List.map_cons, List.map_nil, List.mem_append, List.mem_singleton, hoff]
    constructor
    · rintro (h1 | h1 | h1)
      · exact .inl (.inl h1)
      · exact .inl (.inr h1)
      · exact .inr h1
    · rintro ((h1 | h1) | h1)
      · exact .inl h1
      · exact .inr (.inl h1)
      · exact .inr (.inr h1)
  · rcases List.mem_append.1 hz with hz | hz
    · exact ⟨(a11 z hz).1, (a11 z hz).2.below (j4.below hD hF) (Nat.le_refl _)⟩
    · simp at hz; subst hz
      exact ⟨hy.1, hy.2.below (j4.below hD hF) (Nat.le_refl _)⟩
  · rcases j3 with h1 | h1
    · exact .inl h1.symm
    · exact .inr ⟨k, rfl, h1⟩
theorem addB (w : World) (D g : Nat) (gs gb : Option Nat) (S : List (ByteArray × Nat)) (Y : List BItem) (T : List UInt8) (y : BItem) (h : Jn w D g gs gb S Y T)
    (hy : y.n = y.B.length ∧ RowD w D y.a y.n (byteAt y.B)) (hoff : y.off = T.length)
    (hT : T.length ≤ 1048576) (hs : y.n ≤ 1048576) (hn : Y.length ≤ 1048576) : Calls Try.prog 21 #[.pointer (some ⟨g, 0, none⟩), .slice y.a y.n y.c] w (AddB w D g gs gb S Y T y) := by
  obtain ⟨sv, bv, a1, a2, rfl, a4, rfl, a6, a7, a8, a9, a10, a11⟩ := h
  have hD : D ≤ w.heap.size := Nat.le_of_lt (Nat.lt_of_le_of_lt a9 a1.lt)
  by_cases h0 : y.n = 0
  · refine (addb0 w D g Y.length bv sv _ _ y.a y.n y.c y.B _ a1 (by omega) (by omega) hs hn a4 a7 hD hy.1 hy.2.row h0).mono fun e w' hp => ?_
    exact addB_of a1 a2 a4 a6 a7 a8 a9 a10 a11 hy hoff (by rw [← hy.1]; exact h0.symm) (lastOf_nil (by rw [← hy.1]; exact h0)).symm hp
  · refine (addb1 w D g Y.length bv sv _ _ y.a y.n y.c y.B _ a1 (by omega) (by omega) hs hn a4 a7 hD hy.1 hy.2.row (by omega) _ rfl).mono fun e w' hp => ?_
    exact addB_of a1 a2 a4 a6 a7 a8 a9 a10 a11 hy hoff hy.1 (by rw [lastOf_cons hy.1.symm (by omega)]) hp
theorem lengthJ (w : World) (D g : Nat) (gs gb : Option Nat) (S : List (ByteArray × Nat)) (Y : List BItem) (T : List UInt8) (h : Jn w D g gs gb S Y T) :
    Calls Try.prog 11 #[.pointer (some ⟨g, 0, none⟩)] w fun e w' => e = .returned (.int .u32 T.length) ∧ w = w' := by
  obtain ⟨sv, bv, a1, _⟩ := h
  exact length w g sv bv _ _ a1
theorem lastJ (w : World) (D g : Nat) (gs gb : Option Nat) (S : List (ByteArray × Nat)) (Y : List BItem) (T : List UInt8) (h : Jn w D g gs gb S Y T) :
    Calls Try.prog 15 #[.pointer (some ⟨g, 0, none⟩)] w fun e w' => e = .returned (.int .u8 (lastOf T 0)) ∧ w = w' := by
  obtain ⟨sv, bv, a1, _⟩ := h
  exact lastByte w g sv bv _ _ a1
end Go.Proofs.Ythcfdoaeefnemaa.jn
