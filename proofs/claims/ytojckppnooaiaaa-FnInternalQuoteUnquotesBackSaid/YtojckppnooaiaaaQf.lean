/-
  internalQuote walked.
-/
import Derived.Test.YtojckppnooaiaaaQr
namespace Go.Proofs.Ytojckppnooaiaaa.qw
open Go.ChangeShapes Go.WideShapes Go.ChangeAt Go.RowKit Go.Deep Go.Proofs.Ytojckppnooaiaaa.qp
set_option linter.unusedVariables false
set_option linter.unusedSimpArgs false
/-- The string's iterator, and nothing else of what was there has turned. -/
structure It (W0 w : World) (K : Nat) (s : ByteArray) (pos : Nat) : Prop where
  it : w.heap[K]? = some (.stringIter s pos)
  bel : Below W0.heap.size W0 w
  lt : W0.heap.size ≤ K
theorem It.next {W0 w : World} {K : Nat} {s : ByteArray} {pos : Nat} (h : It W0 w K s pos) (p : Nat) : It W0 (w.iterAt K s p) K s p :=
  ⟨Lib.iterAt_heap w _ s pos p h.it, Lib.below_iterAt h.bel h.lt s p, h.lt⟩
theorem It.start (w : World) (s : ByteArray) : It w (w.iter s 0) w.heap.size s 0 := by
  refine ⟨?_, (Below.refl _ _).alloc (Nat.le_refl _) _, Nat.le_refl _⟩
  have := World.iter_heap w s 0
  simpa using this
def QP (w : World) (T : List Int) (e : Ending) (w' : World) : Prop := ∃ v, e = .returned v ∧ Ob w w' v T
theorem ou_step {a : Bool} {q c : Nat} {r : List Nat} {ys T : List Int} (h : ys ++ ou a q (c :: r) = T) : (ys ++ esc a q c) ++ ou a q r = T := by
  rw [← h]; simp [ou]
theorem ou_room {a : Bool} {q : Nat} {ds : List Nat} {ys T : List Int} (h : ys ++ ou a q ds = T) : ys.length + (ou a q ds).length = T.length := by
  rw [← h, List.length_append]
set_option maxRecDepth 100000 in
set_option maxHeartbeats 16000000 in
theorem quote13 (w : World) (s : ByteArray) (a : Bool) (q : Nat) (L : List Nat) (hs : s.size ≤ 1048576) (hL : Ch s 0 L) (T : List Int) (hT : [(q : Int)] ++ ou a q L = T) :
    Calls Try.prog 13 #[.string s, .bool a, .int .u8 q] w (QP w (T ++ [(q : Int)])) := by
  have HT := Lib.hid hT
  have hTl : T.length ≤ 15000000 := by
    have h1 := ou_len a q L
    have h2 := hL.count
    rw [← hT]; simp; omega
  clear hT
  have HL := Lib.hid hL
  clear hL
  go_enter Try.func13, Try.ntmps13
  go_wp2_with fail
  have hst := It.start w s
  have HST := Lib.hid hst
  clear hst
  go_loopw [7] (fun v wr => ∃ pos est : Nat, v = .int .i64 est ∧ 2 ≤ est ∧ est ≤ 2 + 12 * pos ∧ pos ≤ s.size ∧ It w wr w.heap.size s pos) (fun _ wr => s.size - wr.iterPos w.heap.size)
  case atStart => exact ⟨0, 2, rfl, by omega, by omega, by omega, HST.out⟩
  case round =>
    clear HST
    rename World => wr
    obtain ⟨pos, est, rfl, e1, e2, e3, hus⟩ := hrel
    have HU := Lib.hid hus
    clear hus
    by_cases hlt : pos < s.size
    · obtain ⟨c, hc⟩ : ∃ c, (Utf8.decode s pos).1 = c := ⟨_, rfl⟩
      obtain ⟨wd, hwd⟩ : ∃ wd, (Utf8.decode s pos).2 = wd := ⟨_, rfl⟩
      have hfit := fits s pos hlt
      have hg := dec_max s pos
      rw [hc] at hg
      rw [hwd] at hfit
      have HG := Lib.hid hg
      obtain ⟨f1, f2⟩ := hfit
      have HNX := fun ty => Lib.run_next_any_at (P := Try.prog) wr w.heap.size s pos ty HU.out.it hlt
      simp only [hc, hwd] at HNX
      have HU2 := Lib.hid (HU.out.next (pos + wd))
      have HW1 := Lib.hid (iterPos_of HU.out.it)
      clear hg hc hwd
      go_upto_region 5 with (fail)
      clear HNX
      generalize wr.iterAt w.heap.size s (pos + wd) = W1 at *
      go_wp2_with (first
        | (go_at_call 17; refine (can17 _ a c).mono ?_; rintro _ _ ⟨rfl, rfl⟩)
        | (go_at_call 18; refine (len18 _ c (by omega) (by have := HG.out; omega) (by have := HG.out; omega)).mono ?_; rintro _ _ ⟨⟨n, rfl, n1, n2⟩, rfl⟩))
      all_goals (
        go_roundw
        case rel => (first
          | exact ⟨pos + wd, est + n, by go_num, by omega, by omega, by omega, HU2.out⟩
          | exact ⟨pos + wd, est + 2, by go_num, by omega, by omega, by omega, HU2.out⟩
          | exact ⟨pos + wd, est + 6, by go_num, by omega, by omega, by omega, HU2.out⟩
          | exact ⟨pos + wd, est + 12, by go_num, by omega, by omega, by omega, HU2.out⟩
          | exact ⟨pos + wd, est, by go_num, by omega, by omega, by omega, HU2.out⟩)
        case measure => rw [iterPos_of HU2.out.it, HW1.out]; omega)
    · have hnx := fun ty => Lib.run_next_end_at (P := Try.prog) wr w.heap.size s pos ty HU.out.it hlt
      have hmk := make8 wr est (by omega)
      have HB := Lib.hid HU.out.bel
      clear HU
      go_upto_region 27 with (fail)
      clear hmk
      have hmd := Lib.hid (Ob.made HB.out est (by omega))
      generalize wr.alloc (.cells (madeCells #[.int .u8 0] est) 5) = W2 at *
      clear hnx
      go_upto_region 28 with (at_builtin; refine app (.tmp 62) (.tmp 64) rfl rfl w _ _ [] [(q : Int)] _ rfl 1 1 rfl rfl hmd.out rfl (by simp) ?_; intro v1 W3 hb)
      have HB1 := Lib.hid hb
      clear hb hmd
      go_loopw [10, 11] (fun v10 v11 wr => ∃ (i : Nat) (ds : List Nat) (ys : List Int), v11 = .int .i64 i ∧ Ch s i ds ∧ ys ++ ou a q ds = T ∧ Ob w wr v10 ys) (fun _ v _ => s.size - (intOf v).toNat)
      case atStart => exact ⟨0, L, [(q : Int)], rfl, HL.out, HT.out, HB1.out⟩
      case round =>
        clear HB1
        rename World => wl
        obtain ⟨i, ds, ys, rfl, hch, hys, hob⟩ := hrel
        have hil := hch.le
        have HOB := Lib.hid hob
        have hrm := ou_room hys
        by_cases hi : i < s.size
        · obtain ⟨c, r, n, rfl, hcp, hcr⟩ := hch.here hi
          have hcn := hcp.n
          obtain ⟨n1, n2, n3, n4⟩ := hcn
          have HCP := Lib.hid hcp
          have HCR := Lib.hid hcr
          have HYS := Lib.hid hys
          have HCH := Lib.hid hch
          have hsz : (s.extract i s.size).size ≤ 1048576 := by simp [ByteArray.size_extract]; omega
          have hd := fun W => dec19 W (s.extract i s.size) c n hsz hcp.ext
          have HD := Lib.hid hd
          clear hcp hcr hys hch hob n4 hd hsz
          by_cases hcw : cpw a (c : Int) = true
          · as_aux_lemma => (
            have HES := Lib.hid (esc_raw (q := q) hcw)
            go_wp2_with (first
                | (go_at_call 19; refine (HD.out _).mono ?_; rintro _ _ ⟨rfl, rfl⟩)
                | (go_at_call 17; refine (can17 _ a c).mono ?_; rintro _ _ ⟨rfl, rfl⟩))
            go_loop [11, 13, 14] (fun v11 v13 v14 => ∃ (j : Nat) (ds : List Nat), v11 = .int .i64 j ∧ i < j ∧ Ch s j ds ∧ sx s i j ++ ou a q ds = ou a q (c :: r)) (fun v _ _ => s.size - (intOf v).toNat)
            case atStart => exact ⟨i + n, r, by go_num, by omega, HCR.out, by rw [HCP.out.raw, ← HES.out]; rfl⟩
            case round =>
              obtain ⟨j, ds, rfl, hij, hch2, hou⟩ := hrel
              have hjl := hch2.le
              have hsl := sx_len s (i := i) hjl
              have HYS2 : Hid ((ys ++ sx s i j) ++ ou a q ds = T) := Lib.hid (by rw [List.append_assoc, hou]; exact HYS.out)
              have HOU := Lib.hid hou
              have HCH2 := Lib.hid hch2
              by_cases hj : j < s.size
              · obtain ⟨c2, r2, m, rfl, hcp2, hcr2⟩ := hch2.here hj
                have hcn2 := hcp2.n
                obtain ⟨m1, m2, m3, m4⟩ := hcn2
                have hsz2 : (s.extract j s.size).size ≤ 1048576 := by simp [ByteArray.size_extract]; omega
                have HD2 := Lib.hid (fun W => dec19 W (s.extract j s.size) c2 m hsz2 hcp2.ext)
                have HCP2 := Lib.hid hcp2
                have HCR2 := Lib.hid hcr2
                clear hcp2 hcr2 hch2 hou m4 hsz2
                by_cases hcw2 : cpw a (c2 : Int) = true
                · have HES2 := Lib.hid (esc_raw (q := q) hcw2)
                  go_wp2_with (first
                    | (go_at_call 19; refine (HD2.out _).mono ?_; rintro _ _ ⟨rfl, rfl⟩)
                    | (go_at_call 17; refine (can17 _ a c2).mono ?_; rintro _ _ ⟨rfl, rfl⟩))
                  go_round
                  case rel => exact ⟨j + m, r2, by go_num, by omega, HCR2.out, by
                    rw [← sx_app s (i := i) (j := j) (by omega) (by omega) (by omega), HCP2.out.raw, ← HES2.out, List.append_assoc]
                    exact HOU.out⟩
                  case measure => simp [intOf]; omega
                · have hcw3 : cpw a (c2 : Int) = false := by simpa using hcw2
                  clear hcw2
                  go_wp2_with (first
                    | (go_at_call 19; refine (HD2.out _).mono ?_; rintro _ _ ⟨rfl, rfl⟩)
                    | (go_at_call 17; refine (can17 _ a c2).mono ?_; rintro _ _ ⟨rfl, rfl⟩)
                    | (at_builtin; refine appS (.tmp 100) (.tmp 104) rfl rfl w _ _ ys (sx s i j) _ (strCells_sx s i j) rfl HOB.out rfl (by omega) ?_; intro v1 W3 hb))
                  go_roundw
                  case rel => exact ⟨j, c2 :: r2, ys ++ sx s i j, by go_num, HCH2.out, HYS2.out, hb⟩
                  case measure => simp [intOf]; omega
              · clear hch2 hou
                go_wp2_with (at_builtin; refine appS (.tmp 100) (.tmp 104) rfl rfl w _ _ ys (sx s i j) _ (strCells_sx s i j) rfl HOB.out rfl (by omega) ?_; intro v1 W3 hb)
                go_roundw
                case rel => exact ⟨j, ds, ys ++ sx s i j, by go_num, HCH2.out, HYS2.out, hb⟩
                case measure => simp [intOf]; omega)
          · have hcw0 : cpw a (c : Int) = false := by simpa using hcw
            have hno := cpw_not hcw0
            clear hcw
            have HST := Lib.hid (ou_step HYS.out)
            by_cases e8 : c = 8
            · as_aux_lemma => (
              subst e8
              obtain rfl : n = 1 := by have := HCP.out; unfold Cp at this; omega
              have hr : cpw a ((8 : Nat) : Int) = false := hcw0
              go_wp2_with (first
                | (go_at_call 19; refine (HD.out _).mono ?_; rintro _ _ ⟨rfl, rfl⟩)
                | (go_at_call 17; refine (can17 _ a 8).mono ?_; rintro _ _ ⟨rfl, rfl⟩)
                | (at_builtin; refine appS (.tmp 171) (.const (.string ⟨#[92, 98]⟩)) rfl rfl w _ _ ys [92, 98] _ rfl rfl HOB.out rfl (by simp; omega) ?_; intro v1 W3 hb))
              go_roundw
              case rel => exact ⟨i + 1, r, ys ++ [92, 98], by go_num, HCR.out, HST.out, hb⟩
              case measure => simp [intOf]; omega)
            by_cases e12 : c = 12
            · as_aux_lemma => (
              subst e12
              obtain rfl : n = 1 := by have := HCP.out; unfold Cp at this; omega
              have hr : cpw a ((12 : Nat) : Int) = false := hcw0
              go_wp2_with (first
                | (go_at_call 19; refine (HD.out _).mono ?_; rintro _ _ ⟨rfl, rfl⟩)
                | (go_at_call 17; refine (can17 _ a 12).mono ?_; rintro _ _ ⟨rfl, rfl⟩)
                | (at_builtin; refine appS (.tmp 177) (.const (.string ⟨#[92, 102]⟩)) rfl rfl w _ _ ys [92, 102] _ rfl rfl HOB.out rfl (by simp; omega) ?_; intro v1 W3 hb))
              go_roundw
              case rel => exact ⟨i + 1, r, ys ++ [92, 102], by go_num, HCR.out, HST.out, hb⟩
              case measure => simp [intOf]; omega)
            by_cases e10 : c = 10
            · as_aux_lemma => (
              subst e10
              obtain rfl : n = 1 := by have := HCP.out; unfold Cp at this; omega
              have hr : cpw a ((10 : Nat) : Int) = false := hcw0
              go_wp2_with (first
                | (go_at_call 19; refine (HD.out _).mono ?_; rintro _ _ ⟨rfl, rfl⟩)
                | (go_at_call 17; refine (can17 _ a 10).mono ?_; rintro _ _ ⟨rfl, rfl⟩)
                | (at_builtin; refine appS (.tmp 183) (.const (.string ⟨#[92, 110]⟩)) rfl rfl w _ _ ys [92, 110] _ rfl rfl HOB.out rfl (by simp; omega) ?_; intro v1 W3 hb))
              go_roundw
              case rel => exact ⟨i + 1, r, ys ++ [92, 110], by go_num, HCR.out, HST.out, hb⟩
              case measure => simp [intOf]; omega)
            by_cases e13 : c = 13
            · as_aux_lemma => (
              subst e13
              obtain rfl : n = 1 := by have := HCP.out; unfold Cp at this; omega
              have hr : cpw a ((13 : Nat) : Int) = false := hcw0
              go_wp2_with (first
                | (go_at_call 19; refine (HD.out _).mono ?_; rintro _ _ ⟨rfl, rfl⟩)
                | (go_at_call 17; refine (can17 _ a 13).mono ?_; rintro _ _ ⟨rfl, rfl⟩)
                | (at_builtin; refine appS (.tmp 189) (.const (.string ⟨#[92, 114]⟩)) rfl rfl w _ _ ys [92, 114] _ rfl rfl HOB.out rfl (by simp; omega) ?_; intro v1 W3 hb))
              go_roundw
              case rel => exact ⟨i + 1, r, ys ++ [92, 114], by go_num, HCR.out, HST.out, hb⟩
              case measure => simp [intOf]; omega)
            by_cases e9 : c = 9
            · as_aux_lemma => (
              subst e9
              obtain rfl : n = 1 := by have := HCP.out; unfold Cp at this; omega
              have hr : cpw a ((9 : Nat) : Int) = false := hcw0
              go_wp2_with (first
                | (go_at_call 19; refine (HD.out _).mono ?_; rintro _ _ ⟨rfl, rfl⟩)
                | (go_at_call 17; refine (can17 _ a 9).mono ?_; rintro _ _ ⟨rfl, rfl⟩)
                | (at_builtin; refine appS (.tmp 195) (.const (.string ⟨#[92, 116]⟩)) rfl rfl w _ _ ys [92, 116] _ rfl rfl HOB.out rfl (by simp; omega) ?_; intro v1 W3 hb))
              go_roundw
              case rel => exact ⟨i + 1, r, ys ++ [92, 116], by go_num, HCR.out, HST.out, hb⟩
              case measure => simp [intOf]; omega)
            by_cases e92 : c = 92
            · as_aux_lemma => (
              subst e92
              obtain rfl : n = 1 := by have := HCP.out; unfold Cp at this; omega
              have hr : cpw a ((92 : Nat) : Int) = false := hcw0
              go_wp2_with (first
                | (go_at_call 19; refine (HD.out _).mono ?_; rintro _ _ ⟨rfl, rfl⟩)
                | (go_at_call 17; refine (can17 _ a 92).mono ?_; rintro _ _ ⟨rfl, rfl⟩)
                | (at_builtin; refine appS (.tmp 201) (.const (.string ⟨#[92, 92]⟩)) rfl rfl w _ _ ys [92, 92] _ rfl rfl HOB.out rfl (by simp; omega) ?_; intro v1 W3 hb))
              go_roundw
              case rel => exact ⟨i + 1, r, ys ++ [92, 92], by go_num, HCR.out, HST.out, hb⟩
              case measure => simp [intOf]; omega)
            by_cases e34 : c = 34
            · as_aux_lemma => (
              subst e34
              obtain rfl : n = 1 := by have := HCP.out; unfold Cp at this; omega
              have hr : cpw a ((34 : Nat) : Int) = false := hcw0
              by_cases hq : q = 34
              · have HE := Lib.hid (show esc a q 34 = [92, 34] by simp [esc, hq])
                have t34 : ((q : Int) == 34) = true := by simp; omega
                clear hq
                go_wp2_with (first
                  | (go_at_call 19; refine (HD.out _).mono ?_; rintro _ _ ⟨rfl, rfl⟩)
                  | (go_at_call 17; refine (can17 _ a 34).mono ?_; rintro _ _ ⟨rfl, rfl⟩)
                  | (at_builtin; refine appS (.tmp 209) (.const (.string ⟨#[92, 34]⟩)) rfl rfl w _ _ ys [92, 34] _ rfl rfl HOB.out rfl (by simp; omega) ?_; intro v1 W3 hb))
                go_roundw
                case rel => exact ⟨i + 1, r, ys ++ [92, 34], by go_num, HCR.out, by rw [← HE.out]; exact HST.out, hb⟩
                case measure => simp [intOf]; omega
              · have HE := Lib.hid (show esc a q 34 = [34] by simp [esc, hq])
                have t34 : ((q : Int) == 34) = false := by simp; omega
                clear hq
                go_wp2_with (first
                  | (go_at_call 19; refine (HD.out _).mono ?_; rintro _ _ ⟨rfl, rfl⟩)
                  | (go_at_call 17; refine (can17 _ a 34).mono ?_; rintro _ _ ⟨rfl, rfl⟩)
                  | (at_builtin; refine app (.tmp 211) (.tmp 212) rfl rfl w _ _ ys [34] _ rfl 1 1 rfl rfl HOB.out rfl (by simp; omega) ?_; intro v1 W3 hb))
                go_roundw
                case rel => exact ⟨i + 1, r, ys ++ [34], by go_num, HCR.out, by rw [← HE.out]; exact HST.out, hb⟩
                case measure => simp [intOf]; omega)
            have hes := esc_def (q := q) hcw0 e92 e34 e8 e12 e10 e13 e9
            have t8 : ((c : Int) == 8) = false := by simp; omega
            have t12 : ((c : Int) == 12) = false := by simp; omega
            have t10 : ((c : Int) == 10) = false := by simp; omega
            have t13 : ((c : Int) == 13) = false := by simp; omega
            have t9 : ((c : Int) == 9) = false := by simp; omega
            have t92 : ((c : Int) == 92) = false := by simp; omega
            have t34 : ((c : Int) == 34) = false := by simp; omega
            have t39 : ((c : Int) == 39) = false := by simp; omega
            clear e92 e34 e8 e12 e10 e13 e9
            by_cases hsm : c ≤ 65535
            · as_aux_lemma => (
              have HE := Lib.hid (hes.trans (if_pos hsm))
              obtain ⟨d1, x2, d2, x3, d3, d4, n1, n2, n3, n4, hh⟩ := hex4 c (by omega)
              have HH := Lib.hid hh
              have HHU := Lib.hid hh.hu
              clear hh
              have tsm : decide ((c : Int) ≤ 65535) = true := by simp; omega
              clear hsm hes hno
              go_upto_region 41 with (first
                | (go_at_call 19; refine (HD.out _).mono ?_; rintro _ _ ⟨rfl, rfl⟩)
                | (go_at_call 17; refine (can17 _ a c).mono ?_; rintro _ _ ⟨rfl, rfl⟩))
              refine reg_use (ops := opsA) (by kernel_rfl) ?_
              refine regA w wl _ c d1 x2 d2 x3 d3 d4 n1 n2 n3 n4 ys HH.out (by kernel_rfl) rfl rfl (by simp; omega) HOB.out ?_
              intro t W3 hb
              simp only [Act.put, List.setIfInBounds_toArray, List.set_cons_zero, List.set_cons_succ]
              go_wp2_with fail
              go_roundw
              case rel => exact ⟨i + n, r, ys ++ [92, 117, (n1 : Int), (n2 : Int), (n3 : Int), (n4 : Int)], by go_num, HCR.out, by rw [← HHU.out, ← HE.out]; exact HST.out, hb⟩
              case measure => simp [intOf]; omega)
            · as_aux_lemma => (
              have HE := Lib.hid (hes.trans (if_neg hsm))
              have hcm := HCP.out.n.2.2.2
              obtain ⟨m, hm⟩ : ∃ m, c - 65536 = m := ⟨_, rfl⟩
              obtain ⟨x, hx⟩ : ∃ x, m / 1024 = x := ⟨_, rfl⟩
              obtain ⟨y, hy⟩ : ∃ y, m % 1024 = y := ⟨_, rfl⟩
              obtain ⟨lo, hlo⟩ : ∃ lo, 55296 + x = lo := ⟨_, rfl⟩
              obtain ⟨hi2, hhi⟩ : ∃ hi, 56320 + y = hi := ⟨_, rfl⟩
              rw [hm, hx, hy, hlo, hhi] at HE
              have z1 : (c : Int) - 65536 = (m : Int) := by omega
              have z2 : (m : Int) / 1024 = (x : Int) := by omega
              have z3 : bits .and .i32 (x : Int) 1023 = (x : Int) := by rw [k1023 x (by omega)]; omega
              have z4 : bits .and .i32 (m : Int) 1023 = (y : Int) := by rw [k1023 m (by omega)]; omega
              have z5 : (55296 : Int) + (x : Int) = (lo : Int) := by omega
              have z6 : (56320 : Int) + (y : Int) = (hi2 : Int) := by omega
              have lx : x < 1024 := by omega
              have ly : y < 1024 := by omega
              have lm : m < 1100000 := by omega
              have ll : lo < 60000 := by omega
              have lh : hi2 < 60000 := by omega
              obtain ⟨d1, x2, d2, x3, d3, d4, n1, n2, n3, n4, hh⟩ := hex4 lo (by omega)
              have HH := Lib.hid hh
              have HHU := Lib.hid hh.hu
              clear hh
              obtain ⟨d1', x2', d2', x3', d3', d4', n1', n2', n3', n4', hh'⟩ := hex4 hi2 (by omega)
              have HH' := Lib.hid hh'
              have HHU' := Lib.hid hh'.hu
              clear hh'
              have tsm : decide ((c : Int) ≤ 65535) = false := by simp; omega
              have lc : c < 2000000 := by omega
              clear hsm hes hno hm hx hy hlo hhi hcm
              go_upto_region 45 with (first
                | (go_at_call 19; refine (HD.out _).mono ?_; rintro _ _ ⟨rfl, rfl⟩)
                | (go_at_call 17; refine (can17 _ a c).mono ?_; rintro _ _ ⟨rfl, rfl⟩))
              refine reg_use (ops := opsB) (by kernel_rfl) ?_
              refine regB w wl _ lo hi2 d1 x2 d2 x3 d3 d4 n1 n2 n3 n4 d1' x2' d2' x3' d3' d4' n1' n2' n3' n4' ys HH.out HH'.out (by kernel_rfl) rfl rfl rfl (by simp; omega) HOB.out ?_
              intro t W3 hb
              simp only [Act.put, List.setIfInBounds_toArray, List.set_cons_zero, List.set_cons_succ]
              go_wp2_with fail
              go_roundw
              case rel => exact ⟨i + n, r, ys ++ [92, 117, (n1 : Int), (n2 : Int), (n3 : Int), (n4 : Int), 92, 117, (n1' : Int), (n2' : Int), (n3' : Int), (n4' : Int)], by go_num, HCR.out, by
                have e := HE.out
                rw [HHU.out, HHU'.out] at e
                rw [show [92, 117, (n1 : Int), (n2 : Int), (n3 : Int), (n4 : Int), 92, 117, (n1' : Int), (n2' : Int), (n3' : Int), (n4' : Int)] = esc a q c from e.symm]
                exact HST.out, hb⟩
              case measure => simp [intOf]; omega)
        · have hds := hch.done hi
          subst hds
          have hyt : ys = T := by rw [← hys]; simp [ou]
          subst hyt
          clear hys hrm hch hob
          go_wp2_with (at_builtin; refine app (.tmp 227) (.tmp 229) rfl rfl w _ _ ys [(q : Int)] _ rfl 1 1 rfl rfl HOB.out rfl (by simp; omega) ?_; intro v1 W3 hb)
          go_ret
          exact ⟨_, rfl, hb⟩
end Go.Proofs.Ytojckppnooaiaaa.qw
