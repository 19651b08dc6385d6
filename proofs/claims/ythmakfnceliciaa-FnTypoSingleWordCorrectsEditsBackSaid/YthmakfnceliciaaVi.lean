/-
  The statement on one word walked.
-/
import Derived.Test.YthmakfnceliciaaVh

namespace Go.Proofs.Ythmakfnceliciaa.ty
open Go.ChangeShapes Go.WideShapes Go.ChangeAt Go.RowKit Go.Deep Go.Proofs.Ythmakfnceliciaa.mk Go.Proofs.Ythmakfnceliciaa.u8
set_option linter.unusedVariables false
set_option linter.unusedSimpArgs false
set_option maxRecDepth 100000
set_option maxHeartbeats 4000000
/-- The strings that the statement asks about. -/
theorem take_add {α : Type} (l : List α) (a b : Nat) : l.take (a + b) = l.take a ++ (l.drop a).take b := by rw [List.take_add]
/-- With the code point at place off replaced by another. -/
theorem ask3 {w E : ByteArray} {p off n m : Nat} (hp : pl w p = off) (hw : ∀ u, u ≤ p → Rb w (pl w u) (Utf8.decode w (pl w u)).2) (hn : (Utf8.decode w off).2 = n) (hE : Rb E 0 m) (hEs : E.size = m) :
    (∀ v, v ≤ p → Ok (w.extract 0 off ++ E ++ w.extract (off + n) w.size) (pl (w.extract 0 off ++ E ++ w.extract (off + n) w.size) v) ∧ pl (w.extract 0 off ++ E ++ w.extract (off + n) w.size) v < (w.extract 0 off ++ E ++ w.extract (off + n) w.size).size) ∧
    cut (w.extract 0 off ++ E ++ w.extract (off + n) w.size) (pl (w.extract 0 off ++ E ++ w.extract (off + n) w.size) p) (Utf8.decode (w.extract 0 off ++ E ++ w.extract (off + n) w.size) (pl (w.extract 0 off ++ E ++ w.extract (off + n) w.size) p)).2 = cut w off n := by
  have hr := hw p (Nat.le_refl _)
  rw [hp, hn] at hr
  have hoff : off + n ≤ w.size := hr.1
  have hl : (w.extract 0 off ++ E ++ w.extract (off + n) w.size).data.toList = w.data.toList.take off ++ E.data.toList ++ w.data.toList.drop (off + n) := by rw [list_append, list_append, list_to w off (by omega), list_from]
  generalize w.extract 0 off ++ E ++ w.extract (off + n) w.size = s at *
  have lt : (w.data.toList.take off).length = off := by rw [List.length_take, len_list]; omega
  have hs : s.size = off + m + (w.size - (off + n)) := by
    rw [← len_list s, hl, List.length_append, List.length_append, lt, List.length_drop, len_list, len_list, hEs]
  have hpre : ∀ k, k < pl w p → s.data.toList[k]? = w.data.toList[k]? := fun k hk => by
    rw [hp] at hk
    rw [hl, List.append_assoc, List.getElem?_append_left (by omega), List.getElem?_take, if_pos hk]
  have hRE : Rb s (pl w p) m := by
    rw [hp]
    refine hE.copy (by omega) fun k hk => bt_eq (by omega) (by omega) ?_
    rw [hl, List.append_assoc, List.getElem?_append_right (by omega), lt, List.getElem?_append_left (by rw [len_list]; omega)]
    congr 1
    omega
  obtain ⟨h1, h2, h3⟩ := pl_next hpre (fun u hu => hw u (by omega)) hRE
  refine ⟨h3, ?_⟩
  rw [h2, h1, hp]
  apply eq_list
  rw [list_cut s off m (by omega), list_cut w off n (by omega), hl]
  congr 1
  · rw [List.append_assoc, List.take_append_of_le_length (by omega), List.take_take, Nat.min_self]
  · have le : (w.data.toList.take off ++ E.data.toList).length = off + m := by rw [List.length_append, lt, len_list, hEs]
    rw [← le, List.drop_left]
/-- With two code points swapped. -/
theorem ask4 {w : ByteArray} {p off n m : Nat} (hp : pl w p = off) (hw : ∀ u, u ≤ p → Rb w (pl w u) (Utf8.decode w (pl w u)).2) (hn : (Utf8.decode w off).2 = n) (hm : Rb w (off + n) m) :
    (∀ v, v ≤ p → Ok (w.extract 0 off ++ w.extract (off + n) (off + n + m) ++ w.extract off (off + n) ++ w.extract (off + n + m) w.size) (pl (w.extract 0 off ++ w.extract (off + n) (off + n + m) ++ w.extract off (off + n) ++ w.extract (off + n + m) w.size) v) ∧ pl (w.extract 0 off ++ w.extract (off + n) (off + n + m) ++ w.extract off (off + n) ++ w.extract (off + n + m) w.size) v < (w.extract 0 off ++ w.extract (off + n) (off + n + m) ++ w.extract off (off + n) ++ w.extract (off + n + m) w.size).size) ∧
    cut (w.extract 0 off ++ w.extract (off + n) (off + n + m) ++ w.extract off (off + n) ++ w.extract (off + n + m) w.size) (pl (w.extract 0 off ++ w.extract (off + n) (off + n + m) ++ w.extract off (off + n) ++ w.extract (off + n + m) w.size) p) (Utf8.decode (w.extract 0 off ++ w.extract (off + n) (off + n + m) ++ w.extract off (off + n) ++ w.extract (off + n + m) w.size) (pl (w.extract 0 off ++ w.extract (off + n) (off + n + m) ++ w.extract off (off + n) ++ w.extract (off + n + m) w.size) p)).2 = cut w (off + n) m := by
  have hsz : off + n + m ≤ w.size := hm.1
  have hl : (w.extract 0 off ++ w.extract (off + n) (off + n + m) ++ w.extract off (off + n) ++ w.extract (off + n + m) w.size).data.toList = w.data.toList.take off ++ ((w.data.toList.drop (off + n)).take m ++ ((w.data.toList.drop off).take n ++ w.data.toList.drop (off + n + m))) := by
    rw [list_append, list_append, list_append, list_to w off (by omega), list_from, list_extract w (off + n) (off + n + m) hsz, list_extract w off (off + n) (by omega), show off + n + m - (off + n) = m by omega, show off + n - off = n by omega]
    simp only [List.append_assoc]
  generalize w.extract 0 off ++ w.extract (off + n) (off + n + m) ++ w.extract off (off + n) ++ w.extract (off + n + m) w.size = s at *
  have lt : (w.data.toList.take off).length = off := by rw [List.length_take, len_list]; omega
  have lm : ((w.data.toList.drop (off + n)).take m).length = m := by rw [List.length_take, List.length_drop, len_list]; omega
  have ln : ((w.data.toList.drop off).take n).length = n := by rw [List.length_take, List.length_drop, len_list]; omega
  have hs : s.size = w.size := by
    rw [← len_list s, hl, List.length_append, List.length_append, List.length_append, lt, lm, ln, List.length_drop, len_list]
    omega
  have hpre : ∀ k, k < pl w p → s.data.toList[k]? = w.data.toList[k]? := fun k hk => by
    rw [hp] at hk
    rw [hl, List.getElem?_append_left (by omega), List.getElem?_take, if_pos hk]
  have hRE : Rb s (pl w p) m := by
    rw [hp]
    refine hm.copy (by omega) fun k hk => bt_eq (by omega) (by omega) ?_
    rw [hl, List.getElem?_append_right (by omega), lt, List.getElem?_append_left (by omega), List.getElem?_take, if_pos (by omega), List.getElem?_drop]
    congr 1
    omega
  obtain ⟨h1, h2, h3⟩ := pl_next hpre (fun u hu => hw u (by omega)) hRE
  refine ⟨h3, ?_⟩
  rw [h2, h1, hp]
  apply eq_list
  rw [list_cut s off m (by omega), list_cut w (off + n) m (by omega), hl, take_add, List.append_assoc]
  congr 1
  · rw [List.take_append_of_le_length (by omega), List.take_take, Nat.min_self]
  · have le : (w.data.toList.take off ++ (w.data.toList.drop (off + n)).take m).length = off + m := by rw [List.length_append, lt, lm]
    rw [← List.append_assoc, ← le, List.drop_left]
end Go.Proofs.Ythmakfnceliciaa.ty
