/-
  The law's own quoting walked: zzAppendU, zzEscapeOne, zzQuoteModel.
-/
import Derived.Test.YtojckppnooaiaaaQr
import Derived.Deep.RegionWith
namespace Go.Proofs.Ytojckppnooaiaaa.qw
open Go.ChangeShapes Go.WideShapes Go.ChangeAt Go.RowKit Go.Deep Go.Proofs.Ytojckppnooaiaaa.qp
set_option linter.unusedVariables false
set_option linter.unusedSimpArgs false
/-- A buffer grown by news comes back. -/
def GP (W0 : World) (ys : List Int) (e : Ending) (w' : World) : Prop := ∃ v, e = .returned v ∧ Ob W0 w' v ys
set_option maxRecDepth 100000 in
set_option maxHeartbeats 8000000 in
theorem appU20 (W0 w : World) (v : Value) (ys : List Int) (c : Nat) (hc : c < 65536) (hl : ys.length ≤ 15000012) (hb : Ob W0 w v ys) : Calls Try.prog 20 #[v, .int .i64 c] w (GP W0 (ys ++ hu c)) := by
  obtain ⟨d1, x2, d2, x3, d3, d4, n1, n2, n3, n4, hh⟩ := hex4 c hc
  have HH := Lib.hid hh
  have hu := hh.hu
  have HB := Lib.hid hb
  rw [hu]
  clear hh hu hb
  go_enter Try.func20, Try.ntmps20
  go_upto_region 1 with (fail)
  refine reg_use (ops := opsU) (by kernel_rfl) ?_
  refine regU W0 w v c d1 x2 d2 x3 d3 d4 n1 n2 n3 n4 ys HH.out (by kernel_rfl) rfl rfl (by simp; omega) HB.out ?_
  intro t W3 hb
  simp only [Act.put, List.setIfInBounds_toArray, List.set_cons_zero, List.set_cons_succ]
  go_wp2_with fail
  go_ret
  exact ⟨_, rfl, hb⟩
set_option maxRecDepth 100000 in
set_option maxHeartbeats 16000000 in
theorem esc14 (W0 w : World) (v : Value) (ys : List Int) (raw : ByteArray) (c : Nat) (a : Bool) (q : Nat) (hc : c ≤ 1114111) (hr : Lib.strCells raw = vs (eb c)) (hl : ys.length ≤ 15000000) (hb : Ob W0 w v ys) :
    Calls Try.prog 14 #[v, .string raw, .int .i64 c, .bool a, .int .u8 q] w (GP W0 (ys ++ esc a q c)) := by
  have HB := Lib.hid hb
  have HR := Lib.hid hr
  have hel := eb_len c
  clear hb hr
  obtain ⟨E, hE⟩ : ∃ E, esc a q c = E := ⟨_, rfl⟩
  rw [hE]
  go_enter Try.func14, Try.ntmps14
  by_cases e92 : c = 92
  · subst e92
    have hEE : E = [92, 92] := hE.symm
    subst hEE
    clear hE
    go_wp2_with (at_builtin; refine app (.tmp 15) (.tmp 16) rfl rfl W0 _ _ ys [92, 92] _ rfl 2 2 rfl rfl HB.out rfl (by simp; omega) ?_; intro v1 W3 hb)
    go_ret
    exact ⟨_, rfl, hb⟩
  by_cases e34 : c = 34
  · subst e34
    by_cases hq : q = 34
    · have hEE : E = [92, 34] := by rw [← hE]; simp [esc, hq]
      subst hEE
      have t34 : ((q : Int) == 34) = true := by simp; omega
      clear hE hq
      go_wp2_with (at_builtin; refine app (.tmp 23) (.tmp 24) rfl rfl W0 _ _ ys [92, 34] _ rfl 2 2 rfl rfl HB.out rfl (by simp; omega) ?_; intro v1 W3 hb)
      go_ret
      exact ⟨_, rfl, hb⟩
    · have hEE : E = [34] := by rw [← hE]; simp [esc, hq]
      subst hEE
      have t34 : ((q : Int) == 34) = false := by simp; omega
      clear hE hq
      go_wp2_with (at_builtin; refine app (.tmp 26) (.tmp 27) rfl rfl W0 _ _ ys [34] _ rfl 1 1 rfl rfl HB.out rfl (by simp; omega) ?_; intro v1 W3 hb)
      go_ret
      exact ⟨_, rfl, hb⟩
  have t92 : ((c : Int) == 92) = false := by simp; omega
  have t34 : ((c : Int) == 34) = false := by simp; omega
  by_cases e8 : c = 8
  · subst e8
    have hEE : E = [92, 98] := hE.symm
    subst hEE
    clear hE
    go_wp2_with (at_builtin; refine app (.tmp 32) (.tmp 33) rfl rfl W0 _ _ ys [92, 98] _ rfl 2 2 rfl rfl HB.out rfl (by simp; omega) ?_; intro v1 W3 hb)
    go_ret
    exact ⟨_, rfl, hb⟩
  by_cases e12 : c = 12
  · subst e12
    have hEE : E = [92, 102] := hE.symm
    subst hEE
    clear hE
    go_wp2_with (at_builtin; refine app (.tmp 38) (.tmp 39) rfl rfl W0 _ _ ys [92, 102] _ rfl 2 2 rfl rfl HB.out rfl (by simp; omega) ?_; intro v1 W3 hb)
    go_ret
    exact ⟨_, rfl, hb⟩
  by_cases e10 : c = 10
  · subst e10
    have hEE : E = [92, 110] := hE.symm
    subst hEE
    clear hE
    go_wp2_with (at_builtin; refine app (.tmp 44) (.tmp 45) rfl rfl W0 _ _ ys [92, 110] _ rfl 2 2 rfl rfl HB.out rfl (by simp; omega) ?_; intro v1 W3 hb)
    go_ret
    exact ⟨_, rfl, hb⟩
  by_cases e13 : c = 13
  · subst e13
    have hEE : E = [92, 114] := hE.symm
    subst hEE
    clear hE
    go_wp2_with (at_builtin; refine app (.tmp 50) (.tmp 51) rfl rfl W0 _ _ ys [92, 114] _ rfl 2 2 rfl rfl HB.out rfl (by simp; omega) ?_; intro v1 W3 hb)
    go_ret
    exact ⟨_, rfl, hb⟩
  by_cases e9 : c = 9
  · subst e9
    have hEE : E = [92, 116] := hE.symm
    subst hEE
    clear hE
    go_wp2_with (at_builtin; refine app (.tmp 56) (.tmp 57) rfl rfl W0 _ _ ys [92, 116] _ rfl 2 2 rfl rfl HB.out rfl (by simp; omega) ?_; intro v1 W3 hb)
    go_ret
    exact ⟨_, rfl, hb⟩
  have t8 : ((c : Int) == 8) = false := by simp; omega
  have t12 : ((c : Int) == 12) = false := by simp; omega
  have t10 : ((c : Int) == 10) = false := by simp; omega
  have t13 : ((c : Int) == 13) = false := by simp; omega
  have t9 : ((c : Int) == 9) = false := by simp; omega
  unfold esc at hE
  rw [if_neg e92, if_neg e34, if_neg e8, if_neg e12, if_neg e10, if_neg e13, if_neg e9] at hE
  clear e92 e34 e8 e12 e10 e13 e9
  by_cases h32 : c < 32
  · rw [if_pos h32] at hE
    subst hE
    have u32 : decide ((c : Int) < 32) = true := by simp; omega
    go_wp2_with (go_at_call 20; refine (appU20 W0 _ _ ys c (by omega) (by omega) HB.out).mono ?_; rintro _ W3 ⟨v1, rfl, hb⟩)
    go_ret
    exact ⟨_, rfl, hb⟩
  rw [if_neg h32] at hE
  have u32 : decide ((c : Int) < 32) = false := by simp; omega
  by_cases h127 : c < 127
  · rw [if_pos h127] at hE
    have hEE : E = eb c := by rw [← hE, eb, if_pos (by omega)]
    rw [hEE]
    have u127 : decide ((c : Int) < 127) = true := by simp; omega
    clear hE hEE h127 h32
    go_wp2_with (at_builtin; refine appS (.tmp 68) (.tmp 69) rfl rfl W0 _ _ ys (eb c) _ HR.out rfl HB.out rfl (by omega) ?_; intro v1 W3 hb)
    go_ret
    exact ⟨_, rfl, hb⟩
  rw [if_neg h127] at hE
  have u127 : decide ((c : Int) < 127) = false := by simp; omega
  clear h32
  by_cases hP : a = true ∨ c = 65279 ∨ (55296 ≤ c ∧ c ≤ 57343)
  · rw [if_pos hP] at hE
    have hways : (a = true) ∨ (a = false ∧ c = 65279) ∨ (a = false ∧ c ≠ 65279 ∧ 55296 ≤ c ∧ c ≤ 57343) := by
      cases a
      · by_cases h9 : c = 65279
        · exact .inr (.inl ⟨rfl, h9⟩)
        · rcases hP with h | h | h
          · cases h
          · exact absurd h h9
          · exact .inr (.inr ⟨rfl, h9, h⟩)
      · exact .inl rfl
    clear hP
    go_upto_region 21 with (fail)
    go_cut [71] (fun v71 wx => v71 = .bool true ∧ w = wx)
    case first =>
      rcases hways with rfl | ⟨rfl, rfl⟩ | ⟨rfl, h9, h5, h6⟩
      · go_wp2_with fail
        go_meet
        exact ⟨rfl, rfl⟩
      · go_wp2_with fail
        go_meet
        exact ⟨rfl, rfl⟩
      · have s1 : ((c : Int) == 65279) = false := by simp; omega
        have s2 : decide ((55296 : Int) ≤ (c : Int)) = true := by simp; omega
        have s3 : decide ((c : Int) ≤ 57343) = true := by simp; omega
        clear h9 h5 h6
        go_wp2_with fail
        go_meet
        exact ⟨rfl, rfl⟩
    case rest =>
      obtain ⟨rfl, rfl⟩ := hcut
      by_cases hsm : c ≤ 65535
      · rw [if_pos hsm] at hE
        subst hE
        have tsm : decide ((c : Int) ≤ 65535) = true := by simp; omega
        have hc2 : c < 65536 := by omega
        have HC := Lib.hid hc2
        clear hsm hc2 hc
        go_wp2_with (go_at_call 20; refine (appU20 W0 _ _ ys c HC.out (by omega) HB.out).mono ?_; rintro _ W3 ⟨v1, rfl, hb⟩)
        go_ret
        exact ⟨_, rfl, hb⟩
      · rw [if_neg hsm] at hE
        have tsm : decide ((c : Int) ≤ 65535) = false := by simp; omega
        obtain ⟨m, hm⟩ : ∃ m, c - 65536 = m := ⟨_, rfl⟩
        obtain ⟨x, hx⟩ : ∃ x, m / 1024 = x := ⟨_, rfl⟩
        obtain ⟨y, hy⟩ : ∃ y, m % 1024 = y := ⟨_, rfl⟩
        obtain ⟨lo, hlo⟩ : ∃ lo, 55296 + x = lo := ⟨_, rfl⟩
        obtain ⟨hi2, hhi⟩ : ∃ hi, 56320 + y = hi := ⟨_, rfl⟩
        rw [hm, hx, hy, hlo, hhi] at hE
        have z1 : (c : Int) - 65536 = (m : Int) := by omega
        have z2 : (m : Int) / 1024 = (x : Int) := by omega
        have z4 : bits .and .i64 (m : Int) 1023 = (y : Int) := by rw [l1023 m (by omega)]; omega
        have z5 : (55296 : Int) + (x : Int) = (lo : Int) := by omega
        have z6 : (56320 : Int) + (y : Int) = (hi2 : Int) := by omega
        have lx : x < 1024 := by omega
        have ly : y < 1024 := by omega
        have lm : m < 1100000 := by omega
        have ll : lo < 60000 := by omega
        have lh : hi2 < 60000 := by omega
        have lc : c < 2000000 := by omega
        have HE := Lib.hid hE
        have hlu : (hu lo).length = 6 := hu_len lo
        clear hsm hm hx hy hlo hhi hc hE
        go_wp2_with (first
          | (go_at_call_of 20 v; refine (appU20 W0 _ _ ys lo (by omega) (by omega) HB.out).mono ?_; rintro _ W3 ⟨v1, rfl, hb⟩)
          | (go_at_call 20; refine (appU20 W0 _ _ (ys ++ hu lo) hi2 (by omega) (by rw [List.length_append]; omega) hb).mono ?_; rintro _ W4 ⟨v2, rfl, hb2⟩))
        go_ret
        refine ⟨_, rfl, ?_⟩
        rw [← HE.out, ← List.append_assoc]
        exact hb2
  · rw [if_neg hP] at hE
    subst hE
    have ha : a = false := by cases a; rfl; exact absurd (.inl rfl) hP
    subst ha
    have s1 : ((c : Int) == 65279) = false := by simp; omega
    by_cases h5 : 55296 ≤ c
    · have s2 : decide ((55296 : Int) ≤ (c : Int)) = true := by simp; omega
      have s3 : decide ((c : Int) ≤ 57343) = false := by simp; omega
      clear h5 hP hc
      go_wp2_with (at_builtin; refine appS (.tmp 102) (.tmp 103) rfl rfl W0 _ _ ys (eb c) _ HR.out rfl HB.out rfl (by omega) ?_; intro v1 W3 hb)
      go_ret
      exact ⟨_, rfl, hb⟩
    · have s2 : decide ((55296 : Int) ≤ (c : Int)) = false := by simp; omega
      clear h5 hP hc
      go_wp2_with (at_builtin; refine appS (.tmp 102) (.tmp 103) rfl rfl W0 _ _ ys (eb c) _ HR.out rfl HB.out rfl (by omega) ?_; intro v1 W3 hb)
      go_ret
      exact ⟨_, rfl, hb⟩
end Go.Proofs.Ytojckppnooaiaaa.qw
