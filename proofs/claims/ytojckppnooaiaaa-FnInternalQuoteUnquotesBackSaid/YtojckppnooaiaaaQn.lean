/-
  zzUnquote walked.
-/
import Derived.Test.YtojckppnooaiaaaQl
import Derived.Test.YtojckppnooaiaaaQm
import Derived.Lib.SlBytesRow
namespace Go.Proofs.Ytojckppnooaiaaa.qw
open Go.ChangeShapes Go.WideShapes Go.ChangeAt Go.RowKit Go.Deep Go.Proofs.Ytojckppnooaiaaa.qp
set_option linter.unusedVariables false
set_option linter.unusedSimpArgs false
theorem Ob.str {W0 w : World} {v : Value} {ys : List Int} (h : Ob W0 w v ys) : (convert 24 9 v).run Try.prog w = .ok (.string (strOfNums ys)) w := by
  obtain ⟨hl, ho⟩ := h.1
  rcases ho with ⟨rfl, h0⟩ | ⟨g, cap, cur, fz, rfl, _, _⟩
  · have : ys = [] := List.eq_nil_of_length_eq_zero h0
    subst this
    exact run_convert_bytes_nil w 24 5 Try.underlying24 Try.underlying5 _ _ 9 Try.underlying9
  · refine run_convert_bytes_arg w 24 5 Try.underlying24 Try.underlying5 g 0 _ _ ys rfl (fun i hi => ?_) 9 Try.underlying9
    have hc := World.ownsRowF.cells h.1 (g := g) rfl i (.int .u8 (ys.getD i 0)) (by
      unfold vs
      rw [List.getElem?_map, List.getD_eq_getElem?_getD, List.getElem?_eq_getElem hi]; rfl)
    rw [Go.WideShapes.add_plain] at hc
    exact hc
theorem pv_hu (v : Nat) (h : v < 65536) : ∃ D : Nat → Nat, pv D 4 = v ∧ (∀ k, k < 4 → D k < 16) ∧ hu v = [92, 117, hx (D 0), hx (D 1), hx (D 2), hx (D 3)] := by
  refine ⟨fun k => if k = 0 then v / 4096 % 16 else if k = 1 then v / 256 % 16 else if k = 2 then v / 16 % 16 else v % 16, ?_, ?_, rfl⟩
  · have := hu_val h
    simpa [pv] using this
  · intro k hk
    simp only []
    repeat' split
    all_goals omega
theorem hex15p (w : World) (v : Value) (Y : List Int) (i : Nat) (D : Nat → Nat) (p : Nat) (hp : pv D 4 = p) (hl : Y.length ≤ 20000000) (hr : Rd w v Y) (hd : Dg Y i D) :
    Calls Try.prog 15 #[v, .int .i64 i] w (fun e w' => e = .returned (.tuple #[.int .i64 p, .bool true]) ∧ w = w') := by
  subst hp
  exact hex15 w v Y i D hl hr hd
/-- The four digits behind '\\u'. -/
theorem dg_hu {Y z : List Int} {v i : Nat} (hv : v < 65536) (hi : i ≤ Y.length) (h : Y.drop i = hu v ++ z) : ∃ D, pv D 4 = v ∧ Dg Y (i + 2) D ∧ Y.getD i 0 = 92 ∧ Y.getD (i + 1) 0 = 117 ∧ Y.length = i + 6 + z.length ∧ Y.drop (i + 6) = z := by
  obtain ⟨D, h1, h2, h3⟩ := pv_hu v hv
  have hl := drop_len h hi
  have hn := drop_on h (hu_len v)
  rw [List.length_append, hu_len] at hl
  have hg := drop_get h
  rw [h3] at hg
  refine ⟨D, h1, ⟨by omega, fun k hk => ⟨h2 k hk, ?_⟩⟩, by simpa using hg 0, by simpa using hg 1, by omega, hn⟩
  have hkk : k = 0 ∨ k = 1 ∨ k = 2 ∨ k = 3 := by omega
  rcases hkk with rfl | rfl | rfl | rfl
  · simpa using hg 2
  · simpa using hg 3
  · simpa using hg 4
  · simpa using hg 5
def Lno (x : Nat) : Prop := x < 56320 ∨ 57343 < x
def UP (w : World) (O : List Int) (e : Ending) (w' : World) : Prop := e = .returned (.tuple #[.string (strOfNums O), .bool true]) ∧ Below w.heap.size w w'
/-- Where the loop stands. -/
def At (Y O : List Int) (q : Nat) (i : Nat) (ys : List Int) : Prop := i ≤ Y.length ∧ ∃ o, Un q (Y.drop i) o ∧ ys ++ o = O
theorem At.on {Y O : List Int} {q i : Nat} {ys y o : List Int} (hi : i ≤ Y.length) (hd : Y.drop i = y) (hu : Un q y o) (ho : ys ++ o = O) : At Y O q i ys := ⟨hi, o, by rw [hd]; exact hu, ho⟩
theorem At.len {Y O : List Int} {q i : Nat} {ys : List Int} (h : At Y O q i ys) : ys.length ≤ O.length := by
  obtain ⟨_, o, _, h⟩ := h
  rw [← h, List.length_append]; omega
set_option maxRecDepth 100000 in
set_option maxHeartbeats 32000000 in
theorem un11 (w : World) (v : Value) (Y O : List Int) (q : Nat) (hl : Y.length ≤ 15000000) (hr : Rd w v Y) (hu : Un q Y O) : Calls Try.prog 11 #[v, .int .u8 q] w (UP w O) := by
  have hO : O.length ≤ 15000000 := by have := hu.len; omega
  have HAT := Lib.hid (At.on (Nat.zero_le _) rfl hu (List.nil_append O) : At Y O q 0 [])
  have HR := Lib.hid hr
  have HL := Lib.hid hl
  have HN := Lib.hid (Ob.nil w)
  obtain ⟨a, ca, rfl, hr⟩ := hr
  clear hu
  have i2 : Y.length < 20000000 := by omega
  clear hl
  go_enter Try.func11, Try.ntmps11
  go_wp2_with fail
  go_loopw [6, 7] (fun v6 v7 wr => ∃ (i : Nat) (ys : List Int), v7 = .int .i64 i ∧ At Y O q i ys ∧ Ob w wr v6 ys) (fun _ v _ => Y.length - (intOf v).toNat)
  case atStart => exact ⟨0, [], rfl, HAT.out, HN.out⟩
  case round =>
    rename World => wr
    obtain ⟨i, ys, rfl, ⟨hi, o, hun, hys⟩, hob⟩ := hrel
    have HOB := Lib.hid hob
    have hrl : ys.length ≤ 15000000 := by rw [← hys, List.length_append] at hO; omega
    have hrd := HR.out.below hob.below
    obtain ⟨a', c', e1, hcl⟩ := hrd
    cases e1
    generalize hY : Y.drop i = y at hun
    have HYS := Lib.hid hys
    clear hys hob
    cases hun with
    | nil =>
      as_aux_lemma =>
      have hin : i = Y.length := by have := drop_len hY hi; simpa using this.symm
      subst hin
      have hyO : ys = O := by have := HYS.out; simpa using this
      subst hyO
      have hcv := HOB.out.str
      go_wp2_with fail
      go_ret2
      exact ⟨rfl, HOB.out.below⟩
    | @raw y' o' b h1 h2 h3 h4 hun =>
      as_aux_lemma =>
      have hin := drop_len hY hi
      rw [List.length_cons] at hin
      have hlt : i < Y.length := by omega
      obtain ⟨bb, off, rfl, hc⟩ := hcl (by omega)
      have hc0 := hc i hlt
      have hg0 := drop_get hY 0
      rw [Nat.add_zero] at hg0
      rw [hg0] at hc0
      have hc0 : wr.cell? ⟨bb, off + i, none⟩ = some (.int .u8 (b : Int)) := hc0
      have HU := Lib.hid hun
      have HD := Lib.hid (drop_on (n := 1) (y := [(b : Int)]) hY rfl)
      have HYS2 := Lib.hid (show (ys ++ [(b : Int)]) ++ o' = O by rw [List.append_assoc]; exact HYS.out)
      have d1 : decide ((b : Int) < 32) = false := by simp; omega
      have d2 : ((b : Int) != 92) = true := by simp; omega
      have d4 : (b : Int) < 256 := by omega
      clear hg0 hc hun hin h1 h2
      by_cases h34 : b = 34
      · have d3 : ((b : Int) == 34) = true := by simp; omega
        have d5 : ((q : Int) == 34) = false := by simp; intro h; exact h4 ⟨h34, by omega⟩
        clear h3 h4 h34
        go_wp2_with (at_builtin; refine app (.tmp 32) (.tmp 34) rfl rfl w _ _ ys [(b : Int)] _ rfl 1 1 rfl rfl HOB.out rfl (by simp; omega) ?_; intro v1 W3 hb)
        go_roundw
        case rel => exact ⟨i + 1, ys ++ [(b : Int)], by go_num, At.on (by omega) HD.out HU.out HYS2.out, hb⟩
        case measure => simp [intOf]; omega
      · have d3 : ((b : Int) == 34) = false := by simp; omega
        clear h3 h4 h34
        go_wp2_with (at_builtin; refine app (.tmp 32) (.tmp 34) rfl rfl w _ _ ys [(b : Int)] _ rfl 1 1 rfl rfl HOB.out rfl (by simp; omega) ?_; intro v1 W3 hb)
        go_roundw
        case rel => exact ⟨i + 1, ys ++ [(b : Int)], by go_num, At.on (by omega) HD.out HU.out HYS2.out, hb⟩
        case measure => simp [intOf]; omega
    | @two y' o' e x ht hun =>
      as_aux_lemma =>
      have hin := drop_len hY hi
      rw [List.length_cons, List.length_cons] at hin
      have hlt : i + 1 < Y.length := by omega
      obtain ⟨bb, off, rfl, hc⟩ := hcl (by omega)
      have hc0 := hc i (by omega)
      have hc1 := hc (i + 1) hlt
      have hg0 := drop_get hY 0
      rw [Nat.add_zero] at hg0
      rw [hg0] at hc0
      rw [drop_get hY 1] at hc1
      have hc0 : wr.cell? ⟨bb, off + i, none⟩ = some (.int .u8 92) := hc0
      have hc1 : wr.cell? ⟨bb, off + (i + 1), none⟩ = some (.int .u8 e) := hc1
      have HU := Lib.hid hun
      have HD := Lib.hid (drop_on (n := 2) (y := [92, e]) hY rfl)
      have HYS2 := Lib.hid (show (ys ++ [x]) ++ o' = O by rw [List.append_assoc]; exact HYS.out)
      clear hg0 hc hun hin
      rcases ht with ⟨rfl, rfl⟩ | ⟨rfl, rfl⟩ | ⟨rfl, rfl⟩ | ⟨rfl, rfl⟩ | ⟨rfl, rfl⟩ | ⟨rfl, rfl⟩ | ⟨rfl, rfl⟩
      · as_aux_lemma =>
        go_wp2_with (at_builtin; refine app (.tmp 51) (.tmp 52) rfl rfl w _ _ ys [8] _ rfl 1 1 rfl rfl HOB.out rfl (by simp; omega) ?_; intro v1 W3 hb)
        go_roundw
        case rel => exact ⟨i + 2, ys ++ [8], by go_num, At.on (by omega) HD.out HU.out HYS2.out, hb⟩
        case measure => simp [intOf]; omega
      · as_aux_lemma =>
        go_wp2_with (at_builtin; refine app (.tmp 58) (.tmp 59) rfl rfl w _ _ ys [12] _ rfl 1 1 rfl rfl HOB.out rfl (by simp; omega) ?_; intro v1 W3 hb)
        go_roundw
        case rel => exact ⟨i + 2, ys ++ [12], by go_num, At.on (by omega) HD.out HU.out HYS2.out, hb⟩
        case measure => simp [intOf]; omega
      · as_aux_lemma =>
        go_wp2_with (at_builtin; refine app (.tmp 65) (.tmp 66) rfl rfl w _ _ ys [10] _ rfl 1 1 rfl rfl HOB.out rfl (by simp; omega) ?_; intro v1 W3 hb)
        go_roundw
        case rel => exact ⟨i + 2, ys ++ [10], by go_num, At.on (by omega) HD.out HU.out HYS2.out, hb⟩
        case measure => simp [intOf]; omega
      · as_aux_lemma =>
        go_wp2_with (at_builtin; refine app (.tmp 72) (.tmp 73) rfl rfl w _ _ ys [13] _ rfl 1 1 rfl rfl HOB.out rfl (by simp; omega) ?_; intro v1 W3 hb)
        go_roundw
        case rel => exact ⟨i + 2, ys ++ [13], by go_num, At.on (by omega) HD.out HU.out HYS2.out, hb⟩
        case measure => simp [intOf]; omega
      · as_aux_lemma =>
        go_wp2_with (at_builtin; refine app (.tmp 79) (.tmp 80) rfl rfl w _ _ ys [9] _ rfl 1 1 rfl rfl HOB.out rfl (by simp; omega) ?_; intro v1 W3 hb)
        go_roundw
        case rel => exact ⟨i + 2, ys ++ [9], by go_num, At.on (by omega) HD.out HU.out HYS2.out, hb⟩
        case measure => simp [intOf]; omega
      · as_aux_lemma =>
        go_wp2_with (at_builtin; refine app (.tmp 88) (.tmp 90) rfl rfl w _ _ ys [92] _ rfl 1 1 rfl rfl HOB.out rfl (by simp; omega) ?_; intro v1 W3 hb)
        go_roundw
        case rel => exact ⟨i + 2, ys ++ [92], by go_num, At.on (by omega) HD.out HU.out HYS2.out, hb⟩
        case measure => simp [intOf]; omega
      · as_aux_lemma =>
        go_wp2_with (at_builtin; refine app (.tmp 88) (.tmp 90) rfl rfl w _ _ ys [34] _ rfl 1 1 rfl rfl HOB.out rfl (by simp; omega) ?_; intro v1 W3 hb)
        go_roundw
        case rel => exact ⟨i + 2, ys ++ [34], by go_num, At.on (by omega) HD.out HU.out HYS2.out, hb⟩
        case measure => simp [intOf]; omega
    | @one y' o' p h1 h2 hun =>
      as_aux_lemma =>
      obtain ⟨D, hD1, hD2, hgi, hgi1, hln, hdr⟩ := dg_hu h1 hi hY
      obtain ⟨bb, off, rfl, hc⟩ := hcl (by omega)
      have hc0 := hc i (by omega)
      have hc1 := hc (i + 1) (by omega)
      rw [hgi] at hc0
      rw [hgi1] at hc1
      have HDG := Lib.hid hD2
      have HD1 := Lib.hid hD1
      have HRW := Lib.hid (HR.out.below HOB.out.below)
      have HU := Lib.hid hun
      have HD := Lib.hid hdr
      have HYS2 := Lib.hid (show (ys ++ eb p) ++ o' = O by rw [List.append_assoc]; exact HYS.out)
      have HC := Lib.hid (show p ≤ 1114111 by omega)
      have hlt : i + 6 ≤ Y.length := by omega
      have HCC := Lib.hid hc
      have HG := Lib.hid (drop_get hdr)
      have HLN := Lib.hid hln
      have HW : Hid ((p < 55296) ∨ (56319 < p) ∨ (55296 ≤ p ∧ p ≤ 56319 ∧ Nx y')) := Lib.hid (by
        by_cases ha : p < 55296
        · exact .inl ha
        by_cases hb : 56319 < p
        · exact .inr (.inl hb)
        exact .inr (.inr ⟨by omega, by omega, h2 (by unfold hiS; simp; omega)⟩))
      have h1 := Lib.hid h1
      clear hgi hgi1 hc hun hD1 hD2 hln hdr h2 hY hr hcl
      go_upto_region 42 with (go_at_call 15; refine (hex15p _ _ Y (i + 2) D p HD1.out (by omega) HRW.out HDG.out).mono ?_; rintro _ _ ⟨rfl, rfl⟩)
      go_cut [134] (fun c wx => c = .bool false ∧ wr = wx)
      case first =>
        rcases HW.out with h | h | ⟨h1, h2, h3⟩
        · have s1 : decide ((55296 : Int) ≤ (p : Int)) = false := by simp; omega
          clear h HW
          go_wp2_with fail
          go_meet
          exact ⟨rfl, rfl⟩
        · have s1 : decide ((55296 : Int) ≤ (p : Int)) = true := by simp; omega
          have s2 : decide ((p : Int) ≤ 56319) = false := by simp; omega
          clear h HW
          go_wp2_with fail
          go_meet
          exact ⟨rfl, rfl⟩
        · have s1 : decide ((55296 : Int) ≤ (p : Int)) = true := by simp; omega
          have s2 : decide ((p : Int) ≤ 56319) = true := by simp; omega
          clear h1 h2 HW
          by_cases h12 : i + 12 ≤ Y.length
          · have s3 : decide ((i : Int) + 6 + 6 ≤ (Y.length : Int)) = true := by simp; omega
            have s4 : decide ((i : Int) + 12 ≤ (Y.length : Int)) = true := by simp; omega
            have hl7 : 6 ≤ y'.length := by have := HLN.out; omega
            rcases h3 with rfl | ⟨b, r, rfl, hb⟩ | ⟨e, r, rfl, he⟩
            · simp at hl7
            · have hc6 := HCC.out (i + 6) (by omega)
              rw [show Y.getD (i + 6) 0 = b from HG.out 0] at hc6
              have s5 : (b == 92) = false := by simp; omega
              clear hb hl7
              go_wp2_with fail
              go_meet
              exact ⟨rfl, rfl⟩
            · have hc6 := HCC.out (i + 6) (by omega)
              have hc7 := HCC.out (i + 6 + 1) (by omega)
              rw [show Y.getD (i + 6) 0 = 92 from HG.out 0] at hc6
              rw [show Y.getD (i + 6 + 1) 0 = e from HG.out 1] at hc7
              have hc7' : wr.cell? ⟨bb, off + (i + 7), none⟩ = some (.int .u8 e) := hc7
              have s5 : (e == 117) = false := by simp; omega
              clear he hl7
              go_wp2_with fail
              go_meet
              exact ⟨rfl, rfl⟩
          · have s3 : decide ((i : Int) + 6 + 6 ≤ (Y.length : Int)) = false := by simp; omega
            have s4 : decide ((i : Int) + 12 ≤ (Y.length : Int)) = false := by simp; omega
            clear h3
            go_wp2_with fail
            go_meet
            exact ⟨rfl, rfl⟩
      case rest =>
        obtain ⟨rfl, rfl⟩ := hcut
        clear HW
        have lp : (p : Int) < 70000 := by have := h1.out; omega
        go_wp2_with (go_at_call 16; refine (cp16 w _ _ ys p HC.out (by omega) HOB.out).mono ?_; rintro _ W3 ⟨v1, rfl, hb⟩)
        go_roundw
        case rel => exact ⟨i + 6, ys ++ eb p, by go_num, At.on (by omega) HD.out HU.out HYS2.out, hb⟩
        case measure => simp [intOf]; omega
    | @odd r o' p p2 h1 hh1 h2 hl2 hun =>
      as_aux_lemma =>
      have HP2 := Lib.hid h2
      obtain ⟨D, hD1, hD2, hgi, hgi1, hln, hdr⟩ := dg_hu h1 hi hY
      obtain ⟨bb, off, rfl, hc⟩ := hcl (by omega)
      have hc0 := hc i (by omega)
      have hc1 := hc (i + 1) (by omega)
      rw [hgi] at hc0
      rw [hgi1] at hc1
      have HDG := Lib.hid hD2
      have HD1 := Lib.hid hD1
      have HRW := Lib.hid (HR.out.below HOB.out.below)
      have HU := Lib.hid hun
      have HD := Lib.hid hdr
      have HYS2 := Lib.hid (show (ys ++ eb p) ++ o' = O by rw [List.append_assoc]; exact HYS.out)
      have HC := Lib.hid (show p ≤ 1114111 by omega)
      have hpp : 55296 ≤ p ∧ p ≤ 56319 := by unfold hiS at hh1; simpa using hh1
      have hp2 : p2 < 56320 ∨ 57343 < p2 := by unfold loS at hl2; simp at hl2; omega
      obtain ⟨E, hE1, hE2, hgj, hgj1, hln2, hdr2⟩ := dg_hu HP2.out (show i + 6 ≤ Y.length by omega) hdr
      have hc2 := hc (i + 6) (by omega)
      have hc3 := hc (i + 6 + 1) (by omega)
      rw [hgj] at hc2
      rw [hgj1] at hc3
      have hc3' : wr.cell? ⟨bb, off + (i + 7), none⟩ = some (.int .u8 117) := hc3
      have HEG := Lib.hid hE2
      have HE1 := Lib.hid hE1
      have hlt : i + 12 ≤ Y.length := by omega
      have HPP := Lib.hid hpp
      have HQ : Lno p2 := hp2
      clear hgi hgi1 hgj hgj1 hc hun hD1 hD2 hE1 hE2 hln hln2 hdr hdr2 h1 h2 hh1 hl2 hY hr hcl hpp hp2
      go_upto_region 42 with (go_at_call 15; refine (hex15p _ _ Y (i + 2) D p HD1.out (by omega) HRW.out HDG.out).mono ?_; rintro _ _ ⟨rfl, rfl⟩)
      have s1 : decide ((55296 : Int) ≤ (p : Int)) = true := by have := HPP.out; simp; omega
      have s2 : decide ((p : Int) ≤ 56319) = true := by have := HPP.out; simp; omega
      have s3 : decide ((i : Int) + 6 + 6 ≤ (Y.length : Int)) = true := by have := HPP.out; simp; omega
      have s4 : decide ((i : Int) + 12 ≤ (Y.length : Int)) = true := by have := HPP.out; simp; omega
      go_upto_if 134 with fail
      clear s1 s2 s3 s4
      go_upto_region 44 with (go_at_call 15; refine (hex15p _ _ Y (i + 6 + 2) E p2 HE1.out (by omega) HRW.out HEG.out).mono ?_; rintro _ _ ⟨rfl, rfl⟩)
      rcases (show p2 < 56320 ∨ 57343 < p2 from HQ) with hq | hq
      · have s5 : decide ((56320 : Int) ≤ (p2 : Int)) = false := by simp; omega
        clear hq HQ
        go_upto_if 150 with fail
        clear s5
        have lp : (p : Int) < 70000 := by have := HPP.out; omega
        go_wp2_with (go_at_call 16; refine (cp16 w _ _ ys p HC.out (by omega) HOB.out).mono ?_; rintro _ W3 ⟨v1, rfl, hb⟩)
        go_roundw
        case rel => exact ⟨i + 6, ys ++ eb p, by go_num, At.on (by omega) HD.out HU.out HYS2.out, hb⟩
        case measure => simp [intOf]; omega
      · have s5 : decide ((56320 : Int) ≤ (p2 : Int)) = true := by simp; omega
        have s6 : decide ((p2 : Int) ≤ 57343) = false := by simp; omega
        clear hq HQ
        go_upto_if 150 with fail
        clear s5 s6
        have lp : (p : Int) < 70000 := by have := HPP.out; omega
        go_wp2_with (go_at_call 16; refine (cp16 w _ _ ys p HC.out (by omega) HOB.out).mono ?_; rintro _ W3 ⟨v1, rfl, hb⟩)
        go_roundw
        case rel => exact ⟨i + 6, ys ++ eb p, by go_num, At.on (by omega) HD.out HU.out HYS2.out, hb⟩
        case measure => simp [intOf]; omega
    | @pair y' o' h l hh hl' hun =>
      as_aux_lemma =>
      obtain ⟨p, hp⟩ : ∃ p, 55296 + h = p := ⟨_, rfl⟩
      obtain ⟨p2, hp2⟩ : ∃ p, 56320 + l = p := ⟨_, rfl⟩
      obtain ⟨c, hcE⟩ : ∃ c, 65536 + h * 1024 + l = c := ⟨_, rfl⟩
      have h1 : p < 65536 := by omega
      have HP2 := Lib.hid (show p2 < 65536 by omega)
      have hpp : 55296 ≤ p ∧ p ≤ 56319 := by omega
      rw [hp, hp2] at hY
      rw [hcE] at HYS
      obtain ⟨D, hD1, hD2, hgi, hgi1, hln, hdr⟩ := dg_hu h1 hi hY
      obtain ⟨bb, off, rfl, hc⟩ := hcl (by omega)
      have hc0 := hc i (by omega)
      have hc1 := hc (i + 1) (by omega)
      rw [hgi] at hc0
      rw [hgi1] at hc1
      have HDG := Lib.hid hD2
      have HD1 := Lib.hid hD1
      have HRW := Lib.hid (HR.out.below HOB.out.below)
      obtain ⟨E, hE1, hE2, hgj, hgj1, hln2, hdr2⟩ := dg_hu HP2.out (show i + 6 ≤ Y.length by omega) hdr
      have hc2 := hc (i + 6) (by omega)
      have hc3 := hc (i + 6 + 1) (by omega)
      rw [hgj] at hc2
      rw [hgj1] at hc3
      have hc3' : wr.cell? ⟨bb, off + (i + 7), none⟩ = some (.int .u8 117) := hc3
      have HEG := Lib.hid hE2
      have HE1 := Lib.hid hE1
      have hlt : i + 12 ≤ Y.length := by omega
      have HPP := Lib.hid hpp
      have HU := Lib.hid hun
      have HD := Lib.hid hdr2
      have HYS2 := Lib.hid (show (ys ++ eb c) ++ o' = O by rw [List.append_assoc]; exact HYS.out)
      have HC := Lib.hid (show c ≤ 1114111 by omega)
      have HZ := Lib.hid (show p = 55296 + h ∧ p2 = 56320 + l ∧ c = 65536 + h * 1024 + l ∧ h < 1024 ∧ l < 1024 by omega)
      clear hgi hgi1 hgj hgj1 hc hun hD1 hD2 hE1 hE2 hln hln2 hdr hdr2 h1 hY hr hcl hp hp2 hcE hh hl' hpp
      go_upto_region 42 with (go_at_call 15; refine (hex15p _ _ Y (i + 2) D p HD1.out (by omega) HRW.out HDG.out).mono ?_; rintro _ _ ⟨rfl, rfl⟩)
      have s1 : decide ((55296 : Int) ≤ (p : Int)) = true := by have := HPP.out; simp; omega
      have s2 : decide ((p : Int) ≤ 56319) = true := by have := HPP.out; simp; omega
      have s3 : decide ((i : Int) + 6 + 6 ≤ (Y.length : Int)) = true := by have := HPP.out; simp; omega
      have s4 : decide ((i : Int) + 12 ≤ (Y.length : Int)) = true := by have := HPP.out; simp; omega
      go_upto_if 134 with fail
      clear s1 s2 s3 s4
      go_upto_region 44 with (go_at_call 15; refine (hex15p _ _ Y (i + 6 + 2) E p2 HE1.out (by omega) HRW.out HEG.out).mono ?_; rintro _ _ ⟨rfl, rfl⟩)
      have s5 : decide ((56320 : Int) ≤ (p2 : Int)) = true := by have := HZ.out; simp; omega
      have s6 : decide ((p2 : Int) ≤ 57343) = true := by have := HZ.out; simp; omega
      go_upto_if 150 with fail
      clear s5 s6
      have z1 : (p : Int) - 55296 = (h : Int) := by have := HZ.out; omega
      have z2 : (p2 : Int) - 56320 = (l : Int) := by have := HZ.out; omega
      have z3 : (65536 : Int) + (h : Int) * 1024 + (l : Int) = (c : Int) := by have := HZ.out; omega
      have lh : (h : Int) < 1024 := by have := HZ.out; omega
      have lll : (l : Int) < 1024 := by have := HZ.out; omega
      have lp : (p : Int) < 70000 := by have := HZ.out; omega
      have lp2 : (p2 : Int) < 70000 := by have := HZ.out; omega
      · go_wp2_with (go_at_call 16; refine (cp16 w _ _ ys c HC.out (by omega) HOB.out).mono ?_; rintro _ W3 ⟨v1, rfl, hb⟩)
        go_roundw
        case rel => exact ⟨i + 12, ys ++ eb c, by go_num, At.on (by omega) HD.out HU.out HYS2.out, hb⟩
        case measure => simp [intOf]; omega
end Go.Proofs.Ytojckppnooaiaaa.qw
