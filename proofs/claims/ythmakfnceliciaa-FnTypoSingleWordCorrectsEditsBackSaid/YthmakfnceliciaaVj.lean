/-
  The statement on one word walked: the law.
-/
import Derived.Test.YthmakfnceliciaaVi

namespace Go.Proofs.Ythmakfnceliciaa.ty
open Go.ChangeShapes Go.WideShapes Go.ChangeAt Go.RowKit Go.Deep Go.Proofs.Ythmakfnceliciaa.mk Go.Proofs.Ythmakfnceliciaa.u8
set_option linter.unusedVariables false
set_option linter.unusedSimpArgs false
set_option maxRecDepth 100000
set_option maxHeartbeats 4000000
theorem dec_pos (s : ByteArray) (i : Nat) : 1 ≤ (Utf8.decode s i).2 := by
  rcases dec_cases s i with h | ⟨_, h⟩ | ⟨_, _, _, _, h⟩ | ⟨_, _, _, _, _, _, h⟩ | ⟨_, _, _, _, _, _, _, h⟩ <;> rw [h] <;> decide
theorem pl_succ (s : ByteArray) (t : Nat) : pl s t + 1 ≤ pl s (t + 1) := Nat.add_le_add_left (dec_pos s _) _
theorem pl_lt {s : ByteArray} {t u : Nat} (h : t < u) : pl s t < pl s u := Nat.lt_of_lt_of_le (pl_succ s t) (pl_mono s h)
theorem pl_ge (s : ByteArray) : ∀ t, t ≤ pl s t
  | 0 => Nat.zero_le _
  | t + 1 => by have := pl_ge s t; have := pl_succ s t; omega
/-- What is known while the detector is asked. -/
structure St (w W : World) (s : ByteArray) (B N T g : Nat) : Prop where
  mp : MapIs W B StrKey N (mm s T)
  bx : W.cell? ⟨g, 0, none⟩ = some (.map (some B))
  bel : Below w.heap.size w W
theorem St.next {w W W' : World} {s : ByteArray} {B N T g : Nat} (h : St w W s B N T g) (hb : Below W.heap.size W W') : St w W' s B N T g :=
  ⟨h.mp.below hb h.mp.lt, (hb.cell (p := ⟨g, 0, none⟩) (block_lt_of_cell h.bx)).trans h.bx, h.bel.trans (hb.mono h.bel.size)⟩
theorem St.drew {w W : World} {s : ByteArray} {B N T g : Nat} (h : St w W s B N T g) : St w W.drew s B N T g := ⟨h.mp.drew, h.bx, h.bel.drew⟩
def LawP (w : World) (e : Ending) (w' : World) : Prop := e = .returned (.bool true) ∧ Below w.heap.size w w'
theorem law54 (w : World) (s : ByteArray) (x r : Int) (hm : s.size ≤ maxLen) : Calls Try.prog 4 #[.string s, .int .i64 x, .int .i32 r] w (LawP w) := by
  have H11 := Lib.hid (bytes11 w s x r _ rfl hm)
  by_cases h1 : 4096 < s.size
  · unfold maxLen at hm
    go_enter Try.func4, Try.ntmps4
    go_wp2_with fail
    refine H11.out.mono ?_
    rintro e w' ⟨rfl, rfl⟩
    generalize decide (s.size ≤ 1048576) = v
    cases v
    · go_wp2_with fail
      go_ret
      exact ⟨rfl, Below.refl _ _⟩
    · go_wp2_with fail
      go_ret
      exact ⟨rfl, Below.refl _ _⟩
  have hv : decide (s.size ≤ 1048576) = true := by simp; omega
  have HB : Hid (Calls Try.prog 11 #[.string s, .int .i64 x, .int .i32 r] w fun e w' => e = .returned (.bool true) ∧ w = w') := Lib.hid (by have := H11.out; rw [hv] at this; exact this)
  clear H11 hv
  have h1' : s.size ≤ 4096 := by omega
  clear h1 hm
  by_cases h2 : x < 0 ∨ 65536 < x
  · rcases h2 with h2 | h2
    · go_enter Try.func4, Try.ntmps4
      go_wp2_with fail
      refine HB.out.mono ?_
      rintro e w' ⟨rfl, rfl⟩
      go_wp2_with fail
      go_ret
      exact ⟨rfl, Below.refl _ _⟩
    · have h3 : ¬ x < 0 := by omega
      go_enter Try.func4, Try.ntmps4
      go_wp2_with fail
      refine HB.out.mono ?_
      rintro e w' ⟨rfl, rfl⟩
      go_wp2_with fail
      go_ret
      exact ⟨rfl, Below.refl _ _⟩
  obtain ⟨q, rfl⟩ : ∃ q : Nat, x = (q : Int) := ⟨x.toNat, by omega⟩
  have hq : q ≤ 65536 := by omega
  clear h2
  by_cases h3 : r < 0
  · go_enter Try.func4, Try.ntmps4
    go_wp2_with fail
    refine HB.out.mono ?_
    rintro e w' ⟨rfl, rfl⟩
    go_wp2_with fail
    go_ret
    exact ⟨rfl, Below.refl _ _⟩
  obtain ⟨c, rfl⟩ : ∃ c : Nat, r = (c : Int) := ⟨r.toNat, by omega⟩
  clear h3
  have d0 : decide ((c : Int) < 0) = false := by simp
  by_cases h4 : GoodR c
  rotate_left
  · have d1 : decide ((1114111 : Int) < (c : Int)) = true ∨ (decide ((1114111 : Int) < (c : Int)) = false ∧ decide ((55296 : Int) ≤ (c : Int)) = true ∧ decide ((c : Int) ≤ 57343) = true) := by
      unfold GoodR at h4
      simp
      omega
    clear h4
    rcases d1 with d1 | ⟨d1, d2, d3⟩
    all_goals
      go_enter Try.func4, Try.ntmps4
      go_wp2_with fail
      refine HB.out.mono ?_
      rintro e w' ⟨rfl, rfl⟩
      go_wp2_with fail
      go_ret
      exact ⟨rfl, Below.refl _ _⟩
  have d1 : decide ((1114111 : Int) < (c : Int)) = false := by unfold GoodR at h4; simp; omega
  have HG := Lib.hid h4
  have H7 := Lib.hid (valid7 w s (by omega))
  have d2 : decide ((55296 : Int) ≤ (c : Int)) = false ∨ (decide ((55296 : Int) ≤ (c : Int)) = true ∧ decide ((c : Int) ≤ 57343) = false) := by
    unfold GoodR at h4
    simp
    omega
  clear h4
  rcases d2 with d2 | ⟨d2, d3⟩
  all_goals
    by_cases h5 : s.size ≤ 3
    · go_enter Try.func4, Try.ntmps4
      go_wp2_with fail
      refine HB.out.mono ?_
      rintro e w' ⟨rfl, rfl⟩
      go_wp2_with fail
      go_ret
      exact ⟨rfl, Below.refl _ _⟩
    go_enter Try.func4, Try.ntmps4
    go_wp2_with fail
    refine HB.out.mono ?_
    rintro e w' ⟨rfl, rfl⟩
    go_wp2_with fail
    refine H7.out.mono ?_
    rintro e w' ⟨v, rfl, hvs, rfl⟩
    cases v
    · go_wp2_with fail
      go_ret
      exact ⟨rfl, Below.refl _ _⟩
    have HV := Lib.hid (hvs rfl)
    clear hvs
    have H5 := Lib.hid h5
    clear HB H7 h5
    go_wp2_with fail
    go_loop [7, 8] (fun n i => ∃ t j : Nat, pl s t = j ∧ j ≤ s.size ∧ n = .int .i64 t ∧ i = .int .i64 j) (fun _ i => s.size - (intOf i).toNat)
    case atStart => exact ⟨0, 0, rfl, by omega, rfl, rfl⟩
    case round =>
      obtain ⟨t, j, hpl, hj, rfl, rfl⟩ := hrel
      have HPL := Lib.hid hpl
      have hge := pl_ge s t
      rw [hpl] at hge
      clear hpl
      by_cases hlt : j < s.size
      · have hbt := bt_at s j hlt
        have hrb : Rb s j (Utf8.decode s j).2 := Ok.rb (by have := HV.out t (by rw [HPL.out]; exact hlt); rw [HPL.out] at this; exact this) hlt
        obtain ⟨n, hn⟩ : ∃ n, (Utf8.decode s j).2 = n := ⟨_, rfl⟩
        rw [hn] at hrb
        have HPS := Lib.hid (pl_step HPL.out hn)
        have hjn : j + n ≤ s.size := hrb.1
        have W12 := Lib.hid (fun w' => width12 w' (bt s j) (bt_lt s j))
        simp only [wdt_of hrb] at W12
        have hnp := hrb.pos
        clear hn hrb
        go_wp2_with (go_at_call 12; refine (W12.out _).mono ?_; rintro e w' ⟨rfl, rfl⟩)
        go_round
        case rel => exact ⟨t + 1, j + n, HPS.out, hjn, by go_num, by go_num⟩
        case measure => simp [intOf]; omega
      have hT : pl s t = s.size := by rw [HPL.out]; omega
      obtain rfl : j = s.size := by omega
      have hpos : 0 < t := by
        have := H5.out
        rcases Nat.eq_zero_or_pos t with h | h
        · subst h
          have h0 : pl s 0 = 0 := rfl
          omega
        · exact h
      clear hlt
      have hmod : (q : Int) % (t : Int) = ((q % t : Nat) : Int) := rfl
      have hpt : q % t < t := Nat.mod_lt _ hpos
      have HT := Lib.hid hT
      clear hT
      generalize q % t = p at *
      go_wp2_with fail
      clear hmod
      go_loop [10, 11] (fun o k => ∃ k' o' : Nat, k' ≤ p ∧ pl s k' = o' ∧ o = .int .i64 o' ∧ k = .int .i64 k') (fun _ k => p - (intOf k).toNat)
      case atStart => exact ⟨0, 0, by omega, rfl, rfl, rfl⟩
      case round =>
        obtain ⟨k, o, hk, ho, rfl, rfl⟩ := hrel
        have HO := Lib.hid ho
        have hlt : o < s.size := by have := pl_lt (s := s) (show k < t by omega); have := HT.out; omega
        clear ho
        have hbt := bt_at s o hlt
        have hrb : Rb s o (Utf8.decode s o).2 := Ok.rb (by have := HV.out k (by rw [HO.out]; exact hlt); rw [HO.out] at this; exact this) hlt
        obtain ⟨n, hn⟩ : ∃ n, (Utf8.decode s o).2 = n := ⟨_, rfl⟩
        rw [hn] at hrb
        have HPS := Lib.hid (pl_step HO.out hn)
        have hjn : o + n ≤ s.size := hrb.1
        have W12 := Lib.hid (fun w' => width12 w' (bt s o) (bt_lt s o))
        simp only [wdt_of hrb] at W12
        have hnp := hrb.pos
        have HRB := Lib.hid hrb
        have HN := Lib.hid hn
        clear hn hrb
        by_cases hkp : k < p
        · go_wp2_with (go_at_call 12; refine (W12.out _).mono ?_; rintro e w' ⟨rfl, rfl⟩)
          go_round
          case rel => exact ⟨k + 1, o + n, by omega, HPS.out, by go_num, by go_num⟩
          case measure => simp [intOf]; omega
        obtain rfl : k = p := by omega
        clear hkp hk
        go_wp2_with (go_at_call 12; refine (W12.out _).mono ?_; rintro e w' ⟨rfl, rfl⟩)
        refine (make1 (w.alloc (.cells #[.string s] 9)) w.heap.size 0 1 s (by simp) (by have := H5.out; omega) h1' HV.out).mono ?_
        rintro e w2 ⟨B, N, T, rfl, hm, hTT, hb2, hB⟩
        have hkT : k < T := by
          rcases Nat.lt_or_ge k T with h | h
          · exact h
          · have h1 := pl_mono s h
            have h2 := HO.out
            omega
        have hS : St w (w2.alloc (.cells #[.map (some B)] 28)) s B N T w2.heap.size := by
          have hbb : Below w2.heap.size w2 (w2.alloc (.cells #[.map (some B)] 28)) := (Below.refl _ _).alloc (Nat.le_refl _) _
          have hb1 : Below w.heap.size w (w.alloc (.cells #[.string s] 9)) := (Below.refl _ _).alloc (Nat.le_refl _) _
          have hbw := hb1.trans (hb2.mono hb1.size)
          exact ⟨hm.alloc _, cell_of_row _ _ 0 _ _ _ (heap_alloc_new _ _), hbw.trans (hbb.mono hbw.size)⟩
        have HS := Lib.hid hS
        have K0 : Hid (gh (mm s T) (cut s (pl s 0) (Utf8.decode s (pl s 0)).2) = true) := Lib.hid (mm_has T 0 (by omega))
        have P0 : Hid (∀ v, v ≤ 0 → Ok s (pl s v) ∧ pl s v < s.size) := Lib.hid (fun v hv => by
          obtain rfl : v = 0 := by omega
          have h0 : pl s 0 < s.size := by show 0 < s.size; omega
          exact ⟨HV.out 0 h0, h0⟩)
        have K1 : Hid (gh (mm s T) (cut s o n) = true) := Lib.hid (by have := mm_has (s := s) T k hkT; rw [HO.out, HN.out] at this; exact this)
        have HTT := Lib.hid hTT
        clear hm hTT hb2 hB hS
        go_simp
        go_wp2_with fail
        generalize w2.alloc (.cells #[.map (some B)] 28) = w3 at *
        generalize w2.heap.size = g at *
        refine (find_walk _ s s B N (mm s T) (by omega) HS.out.mp (mm_val T) 0 P0.out K0.out).mono ?_
        rintro e w4 ⟨rfl, hb4⟩
        replace HS := Lib.hid (HS.out.next hb4)
        have bx := HS.out.bx
        clear hb4 K0 P0
        go_upto_region 25 with (fail)
        have e1 : IntKind.i64.wrap ((o : Int) + (n : Int)) = (o : Int) + (n : Int) := Go.IntWalk.i64_in _ (by omega)
        have e2 : (0 : Int) ≤ (o : Int) + (n : Int) := by omega
        have e3 : ((o : Int) + (n : Int)).toNat = o + n := by omega
        have e4 : (o : Int) + (n : Int) ≤ (s.size : Int) := by omega
        have e6 : (o : Int) ≤ (s.size : Int) := by omega
        have e7 : o ≤ s.size := by omega
        have e5 : (9223372036854775807 < o + (s.size - (o + n))) = False := eq_false (by omega)
        go_region_law (go_simp; go_at_call 10; refine (find_now _ _ s B N (mm s T) HS.out.drew.mp (mm_val T) K1.out).mono ?_; rintro e w5 ⟨rfl, hb5⟩; have HS5 := Lib.hid (HS.out.drew.next hb5); clear hb5)
        clear e1 e2 e3 e4 e5 e6 e7 bx
        have bx := HS5.out.bx
        have HW : Hid (∀ u, u ≤ k → Rb s (pl s u) (Utf8.decode s (pl s u)).2) := Lib.hid (fun u hu => by
          have h1 := pl_mono s hu
          have h2 := HO.out
          have h3 : pl s u < s.size := by omega
          exact Ok.rb (HV.out u h3) h3)
        go_upto_region 26 with (fail)
        have e1 : IntKind.i64.wrap ((o : Int) + (n : Int)) = (o : Int) + (n : Int) := Go.IntWalk.i64_in _ (by omega)
        have e2 : (0 : Int) ≤ (o : Int) + (n : Int) := by omega
        have e3 : ((o : Int) + (n : Int)).toNat = o + n := by omega
        have e4 : (o : Int) + (n : Int) ≤ (s.size : Int) := by omega
        have e6 : (o : Int) ≤ (s.size : Int) := by omega
        have e7 : o ≤ s.size := by omega
        go_region_law (first | (go_simp; go_at_call 13; refine (enc13 _ c HG.out).mono ?_; rintro e w6 ⟨E, m, rfl, hEs, hER, hb6⟩; have HS6 := Lib.hid (HS5.out.drew.next hb6); have bx6 := HS6.out.bx; have hm4 := hER.pos; have HES := Lib.hid hEs; have e8 : (9223372036854775807 < o + E.size) = False := eq_false (by omega); have e9 : (9223372036854775807 < o + E.size + (s.size - (o + n))) = False := eq_false (by omega); have A3 := Lib.hid (ask3 HO.out HW.out HN.out hER hEs); have HZ3 : Hid ((s.extract 0 o ++ E ++ s.extract (o + n) s.size).size ≤ 8192) := Lib.hid (by simp; omega); clear hb6 hEs hER) | (go_simp; go_at_call 10; refine (find_walk _ _ s B N (mm s T) HZ3.out HS6.out.mp (mm_val T) k A3.out.1 (by rw [A3.out.2]; exact K1.out)).mono ?_; rintro e w7 ⟨rfl, hb7⟩; have HS7 := Lib.hid (HS6.out.next hb7); clear hb7))
        all_goals
          clear e8 e9 bx bx6 A3 HZ3 HES HS5 HS6
          go_simp
          have hss : (s == s) = true := (bytes_beq s s).2 rfl
          by_cases hj2 : o + n < s.size
          rotate_left
          · have d9 : decide ((o : Int) + (n : Int) < (s.size : Int)) = false := by simp; omega
            clear hj2
            go_wp2_with fail
            go_ret
            exact ⟨rfl, HS7.out.bel⟩
          have d9 : decide ((o : Int) + (n : Int) < (s.size : Int)) = true := by simp; omega
          have hbt2 := bt_at s (o + n) hj2
          have hrb2 : Rb s (o + n) (Utf8.decode s (o + n)).2 := Ok.rb (by have := HV.out (k + 1) (by rw [HPS.out]; exact hj2); rw [HPS.out] at this; exact this) hj2
          obtain ⟨n2, hn2⟩ : ∃ n2, (Utf8.decode s (o + n)).2 = n2 := ⟨_, rfl⟩
          rw [hn2] at hrb2
          have W13 := Lib.hid (fun w' => width12 w' (bt s (o + n)) (bt_lt s (o + n)))
          simp only [wdt_of hrb2] at W13
          have A4 := Lib.hid (ask4 HO.out HW.out HN.out hrb2)
          have K2 : Hid (gh (mm s T) (cut s (o + n) n2) = true) := Lib.hid (by
            have hkT2 : k + 1 < T := by
              rcases Nat.lt_or_ge (k + 1) T with h | h
              · exact h
              · have h1 := pl_mono s h
                have h2 := HPS.out
                have h3 := HTT.out
                omega
            have := mm_has (s := s) T (k + 1) hkT2
            rw [HPS.out, hn2] at this
            exact this)
          have hz2 : o + n + n2 ≤ s.size := hrb2.1
          have hp2 := hrb2.pos
          clear hrb2 hn2
          go_upto_region 32 with (go_at_call 12; refine (W13.out _).mono ?_; rintro e w' ⟨rfl, rfl⟩)
          clear hbt2 d9
          have f1 : IntKind.i64.wrap ((o : Int) + (n : Int) + (n2 : Int)) = (o : Int) + (n : Int) + (n2 : Int) := Go.IntWalk.i64_in _ (by omega)
          have f2 : (0 : Int) ≤ (o : Int) + (n : Int) + (n2 : Int) := by omega
          have f3 : ((o : Int) + (n : Int) + (n2 : Int)).toNat = o + n + n2 := by omega
          have f4 : (o : Int) + (n : Int) + (n2 : Int) ≤ (s.size : Int) := by omega
          have f5 : (o : Int) + (n : Int) ≤ (o : Int) + (n : Int) + (n2 : Int) := by omega
          have f6 : (o : Int) ≤ (o : Int) + (n : Int) := by omega
          have f7 : o + n ≤ s.size := by omega
          have f8 : o + n + n2 ≤ s.size := by omega
          have HZ4 : Hid ((s.extract 0 o ++ s.extract (o + n) (o + n + n2) ++ s.extract o (o + n) ++ s.extract (o + n + n2) s.size).size ≤ 8192) := Lib.hid (by simp; omega)
          have g1 : (9223372036854775807 < o + (o + n + n2 - (o + n))) = False := eq_false (by omega)
          have g2 : (9223372036854775807 < o + (o + n + n2 - (o + n)) + (o + n - o)) = False := eq_false (by omega)
          have g3 : (9223372036854775807 < o + (o + n + n2 - (o + n)) + (o + n - o) + (s.size - (o + n + n2))) = False := eq_false (by omega)
          go_quiet (fail)
          clear f1 f2 f3 f4 f5 f6 f7 f8 g1 g2 g3 e1 e2 e3 e4 e6 e7
          have HS8 : Hid (St w (w7.drewN nq) s B N T g) := Lib.hid ⟨HS7.out.mp.of_block (by simp), by simpa using HS7.out.bx, ⟨HS7.out.bel.os, HS7.out.bel.tape, HS7.out.bel.output, HS7.out.bel.size, HS7.out.bel.block⟩⟩
          generalize w7.drewN nq = W8 at *
          have bx := HS8.out.bx
          go_wp2_with (go_at_call 10; refine (find_walk _ _ s B N (mm s T) HZ4.out HS8.out.mp (mm_val T) k A4.out.1 (by rw [A4.out.2]; exact K2.out)).mono ?_; rintro e w9 ⟨rfl, hb9⟩; have HS9 := Lib.hid (HS8.out.next hb9); clear hb9)
          go_ret
          exact ⟨rfl, HS9.out.bel⟩
end Go.Proofs.Ythmakfnceliciaa.ty
