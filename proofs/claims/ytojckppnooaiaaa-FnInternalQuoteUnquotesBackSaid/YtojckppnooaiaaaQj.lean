/-
  Law 16's own walk.
-/
import Derived.Test.YtojckppnooaiaaaQi
namespace Go.Proofs.Ytojckppnooaiaaa.qw
open Go.ChangeShapes Go.WideShapes Go.ChangeAt Go.RowKit Go.Deep Go.Proofs.Ytojckppnooaiaaa.qp
set_option linter.unusedVariables false
set_option linter.unusedSimpArgs false
set_option maxRecDepth 100000 in
theorem bytes5 (w : World) (s : ByteArray) (a : Bool) (q : Int) (hm : s.size ≤ maxLen) (b : Bool) (hb : decide (s.size ≤ 1048576) = b) : Calls Try.prog 5 #[.string s, .bool a, .int .u8 q] w (fun e w' => e = .returned (.bool b) ∧ w = w') := by
  by_cases hs : s.size ≤ 1048576
  · have : b = true := by rw [← hb]; simpa using hs
    subst this
    have d1 : decide ((1048576 : Int) < (s.size : Int)) = false := by simp; omega
    have d2 : decide (1048576 < s.size) = false := by simp; omega
    have hs2 : s.size < 2000000 := by omega
    clear hb hs hm
    go_enter Try.func5, Try.ntmps5
    go_wp2_with fail
    go_ret
    exact ⟨rfl, rfl⟩
  · have : b = false := by rw [← hb]; simpa using hs
    subst this
    have d1 : decide ((1048576 : Int) < (s.size : Int)) = true := by simp; omega
    have d2 : decide (1048576 < s.size) = true := by simp; omega
    clear hb hs hm
    go_enter Try.func5, Try.ntmps5
    go_wp2_with fail
    go_ret
    exact ⟨rfl, rfl⟩
set_option maxRecDepth 100000 in
theorem bytes10 (w : World) (s : ByteArray) (a : Bool) (q : Int) (hm : s.size ≤ maxLen) (b : Bool) (hb : decide (s.size ≤ 1048576) = b) : Calls Try.prog 10 #[.string s, .bool a, .int .u8 q] w (fun e w' => e = .returned (.bool b) ∧ w = w') := by
  by_cases hs : s.size ≤ 1048576
  · have : b = true := by rw [← hb]; simpa using hs
    subst this
    have d1 : decide ((1048576 : Int) < (s.size : Int)) = false := by simp; omega
    have d2 : decide (1048576 < s.size) = false := by simp; omega
    have hs2 : s.size < 2000000 := by omega
    clear hb hs hm
    go_enter Try.func10, Try.ntmps10
    go_wp2_with fail
    go_ret
    exact ⟨rfl, rfl⟩
  · have : b = false := by rw [← hb]; simpa using hs
    subst this
    have d1 : decide ((1048576 : Int) < (s.size : Int)) = true := by simp; omega
    have d2 : decide (1048576 < s.size) = true := by simp; omega
    clear hb hs hm
    go_enter Try.func10, Try.ntmps10
    go_wp2_with fail
    go_ret
    exact ⟨rfl, rfl⟩
set_option maxRecDepth 100000 in
theorem zz7 (w : World) (s : ByteArray) (a : Bool) (q : Nat) (L : List Nat) (hs : s.size ≤ 1048576) (hL : Ch s 0 L) (T : List Int) (hT : [(q : Int)] ++ ou a q L = T) :
    Calls Try.prog 7 #[.string s, .bool a, .int .u8 q] w (QP w (T ++ [(q : Int)])) := by
  go_enter Try.func7, Try.ntmps7
  go_wp2_with (go_at_call 13; refine (quote13 _ s a q L hs hL T hT).mono ?_; rintro _ W3 ⟨v1, rfl, hb⟩)
  go_ret
  exact ⟨_, rfl, hb⟩
set_option maxRecDepth 100000 in
set_option maxHeartbeats 4000000 in
theorem law16 (w : World) (s : ByteArray) (a : Bool) (q : Int) (hm : s.size ≤ maxLen) (hq : (Lit.int .u8 q).wf = true) : Calls Try.prog 3 #[.string s, .bool a, .int .u8 q] w fun e w' => e = .returned (.bool true) ∧ Below w.heap.size w w' := by
  obtain ⟨q, rfl⟩ : ∃ n : Nat, q = (n : Int) := by
    have h0 : 0 ≤ q := by
      simp [Lit.wf, IntKind.min, IntKind.max, IntKind.signed, IntKind.bits] at hq
      omega
    exact ⟨q.toNat, by omega⟩
  obtain ⟨b0, hb0⟩ : ∃ b, decide (s.size ≤ 1048576) = b := ⟨_, rfl⟩
  have HM := Lib.hid hm
  have HB0 := Lib.hid hb0
  clear hm hq
  cases b0 with
  | false =>
    clear hb0
    go_enter Try.func3, Try.ntmps3
    go_wp2_with (go_at_call 5; refine (bytes5 _ s a q HM.out false HB0.out).mono ?_; rintro _ _ ⟨rfl, rfl⟩)
    go_ret
    exact ⟨rfl, Below.refl _ _⟩
  | true =>
    have hs : s.size ≤ 1048576 := by simpa using hb0
    have HS := Lib.hid hs
    have d1 : decide ((1048576 : Int) < (s.size : Int)) = false := by simp; omega
    have d2 : decide (1048576 < s.size) = false := by simp; omega
    clear hs hb0
    go_enter Try.func3, Try.ntmps3
    go_upto_if 19 with (first
      | (go_at_call 5; refine (bytes5 _ s a q HM.out true HB0.out).mono ?_; rintro _ _ ⟨rfl, rfl⟩)
      | (go_at_call 6; refine (wf6 _ s HS.out).mono ?_; rintro _ _ ⟨b, rfl, hwf, rfl⟩))
    cases b with
    | false =>
      go_wp2_with fail
      go_ret
      exact ⟨rfl, Below.refl _ _⟩
    | true =>
      obtain ⟨L, hL, _⟩ := hwf rfl
      obtain ⟨T, hT⟩ : ∃ T, [(q : Int)] ++ ou a q L = T := ⟨_, rfl⟩
      have hTl : T.length ≤ 14000000 := by
        have h1 := ou_len a q L
        have h2 := hL.count
        have h3 := HS.out
        rw [← hT]; simp; omega
      have HL := Lib.hid hL
      have HT := Lib.hid hT
      have HTL := Lib.hid (show (T ++ [(q : Int)]).length ≤ 15000000 by rw [List.length_append]; simp; omega)
      clear hL hT hwf hTl
      go_upto_region 8 with (go_at_call 7; refine (zz7 _ s a q L HS.out HL.out T HT.out).mono ?_; rintro _ W1 ⟨v1, rfl, hb1⟩)
      have HB1 := Lib.hid hb1
      clear hb1
      go_upto_region 9 with (go_at_call 8; refine (model8 _ s a q L HS.out HL.out T HT.out).mono ?_; rintro _ W2 ⟨v2, rfl, hb2⟩)
      have HB2 := Lib.hid hb2
      clear hb2
      go_wp2_with (go_at_call 9; refine (eq9 _ _ _ (T ++ [(q : Int)]) HTL.out (HB1.out.rd.below HB2.out.below) HB2.out.rd).mono ?_; rintro _ W3 ⟨rfl, hb3⟩)
      go_ret
      exact ⟨rfl, HB1.out.below.trans ((HB2.out.below.trans (hb3.mono HB2.out.size)).mono HB1.out.size)⟩
end Go.Proofs.Ytojckppnooaiaaa.qw
