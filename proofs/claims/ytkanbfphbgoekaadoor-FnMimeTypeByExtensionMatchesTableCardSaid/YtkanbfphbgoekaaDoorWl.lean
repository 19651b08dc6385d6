/-
  The walk of the second statement.
-/
import Derived.Test.YtkanbfphbgoekaaDoorWf
namespace Go.Proofs.YtkanbfphbgoekaaDoor.mi
open Go.ChangeShapes Go.WideShapes Go.ChangeAt Go.RowKit Go.Deep Go.Shelf Go.Lib Go.Proofs.YtkanbfphbgoekaaDoor.pl
set_option linter.unusedVariables false
set_option linter.unusedSimpArgs false
set_option maxRecDepth 100000
set_option maxHeartbeats 40000000
theorem bytes8 (w : World) (s : ByteArray) : Calls Tryd.prog 8 #[.string s] w fun e w' => (e = .returned (.bool false) ∨ e = .returned (.bool true)) ∧ w = w' := by
  go_enter Tryd.func8, Tryd.ntmps8
  go_wp2_with fail
  all_goals
    go_ret
    first | exact ⟨.inl rfl, rfl⟩ | exact ⟨.inr rfl, rfl⟩
theorem law17 (w : World) (s : ByteArray) (hw : Wd w) : Calls Tryd.prog 4 #[.string s] w (LawP w) := by
  have H8 := Lib.hid (bytes8 w s)
  have HW := Lib.hid hw
  clear hw
  by_cases h1 : s.size ≤ 1048576
  rotate_left
  · have d1 : decide ((1048576 : Int) < (s.size : Int)) = true := by simp; omega
    clear h1
    go_enter Tryd.func4, Tryd.ntmps4
    go_wp2_with fail
    refine H8.out.mono ?_
    rintro e w' ⟨rfl | rfl, rfl⟩
    · go_wp2_with fail
      go_ret
      exact ⟨rfl, Below.refl _ _⟩
    · go_wp2_with fail
      go_ret
      exact ⟨rfl, Below.refl _ _⟩
  have d1 : decide ((1048576 : Int) < (s.size : Int)) = false := by simp; omega
  obtain ⟨fl1, fl2⟩ := fold_low s.data.toList.length s.data.toList
  have hlow : toLowerD s.data.toList = mapGoD toLowerU s.data.toList.length s.data.toList := rfl
  cases hfd : fd s.data.toList.length s.data.toList with
  | some m =>
    have hm : toLowerD s.data.toList = m := hlow.trans (fl1 m hfd)
    have HF : Hid (Calls Tryd.prog 9 #[.string s] w fun e w' => e = .returned (.tuple #[Str m, .bool true]) ∧ Below w.heap.size w w') := Lib.hid (by
      have h := fold9 w s h1
      unfold FoldP foldV at h
      rw [hfd] at h
      exact h)
    have HT : Hid (∀ w, Calls Tryd.prog 10 #[Str m] w fun e w' => e = .returned (Str (tb m)) ∧ w = w') := Lib.hid fun w => by
      have h := table10 w ⟨m.toArray⟩
      exact h
    have HM : Hid (∀ w', Wd w' → Calls Tryd.prog 6 #[.string s] w' fun e w'' => e = .returned (Str (tb m)) ∧ Below w'.heap.size w' w'') := Lib.hid fun w' h => by
      have h2 := mime6 w' s h1 h
      rw [hm] at h2
      exact h2
    clear fl1 fl2 hlow hfd hm
    obtain ⟨r, hr⟩ : ∃ r : ByteArray, Str (tb m) = .string r := ⟨_, rfl⟩
    obtain ⟨r2, hr2⟩ : ∃ r2 : ByteArray, Str m = .string r2 := ⟨_, rfl⟩
    rw [hr, hr2] at HT
    rw [hr] at HM
    rw [hr2] at HF
    clear hr hr2
    have hrr : (r == r) = true := (Go.MapKept.bytes_beq r r).2 rfl
    go_enter Tryd.func4, Tryd.ntmps4
    go_wp2_with fail
    refine H8.out.mono ?_
    rintro e w' ⟨rfl | rfl, rfl⟩
    · go_wp2_with fail
      go_ret
      exact ⟨rfl, Below.refl _ _⟩
    clear H8
    go_upto_region 7 with (go_at_call 9; refine HF.out.mono ?_; rintro e w1 ⟨rfl, hb1⟩; have HB1 := Lib.hid hb1; have HW1 := Lib.hid (HW.out.below hb1); clear hb1)
    clear HF HW
    go_wp2_with (first | (go_at_call 10; refine (HT.out _).mono ?_; rintro e w2 ⟨rfl, rfl⟩) | (go_at_call 6; refine (HM.out _ HW1.out).mono ?_; rintro e w2 ⟨rfl, hb2⟩; have HB2 := Lib.hid (HB1.out.trans (hb2.mono HB1.out.size)); clear hb2))
    go_ret
    exact ⟨rfl, HB2.out⟩
  | none =>
    have hno : tb (toLowerD s.data.toList) = [] := tb_high (by rw [hlow]; exact fl2 hfd)
    have HF : Hid (Calls Tryd.prog 9 #[.string s] w fun e w' => e = .returned (.tuple #[.string ⟨#[]⟩, .bool false]) ∧ Below w.heap.size w w') := Lib.hid (by
      have h := fold9 w s h1
      unfold FoldP foldV at h
      rw [hfd] at h
      exact h)
    have HM : Hid (∀ w', Wd w' → Calls Tryd.prog 6 #[.string s] w' fun e w'' => e = .returned (.string ⟨#[]⟩) ∧ Below w'.heap.size w' w'') := Lib.hid fun w' h => by
      have h2 := mime6 w' s h1 h
      rw [hno] at h2
      exact h2
    clear fl1 fl2 hlow hfd hno
    go_enter Tryd.func4, Tryd.ntmps4
    go_wp2_with fail
    refine H8.out.mono ?_
    rintro e w' ⟨rfl | rfl, rfl⟩
    · go_wp2_with fail
      go_ret
      exact ⟨rfl, Below.refl _ _⟩
    clear H8
    go_upto_region 7 with (go_at_call 9; refine HF.out.mono ?_; rintro e w1 ⟨rfl, hb1⟩; have HB1 := Lib.hid hb1; have HW1 := Lib.hid (HW.out.below hb1); clear hb1)
    clear HF HW
    go_wp2_with (go_at_call 6; refine (HM.out _ HW1.out).mono ?_; rintro e w2 ⟨rfl, hb2⟩; have HB2 := Lib.hid (HB1.out.trans (hb2.mono HB1.out.size)); clear hb2)
    go_ret
    exact ⟨rfl, HB2.out⟩
end Go.Proofs.YtkanbfphbgoekaaDoor.mi
