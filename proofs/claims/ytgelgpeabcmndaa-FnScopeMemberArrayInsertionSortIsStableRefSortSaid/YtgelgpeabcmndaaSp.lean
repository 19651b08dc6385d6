/-
  zzStableOrder walked: the order that it answers is sorted.
-/
import Derived.Test.YtgelgpeabcmndaaSm
import Derived.Test.YtgelgpeabcmndaaSo
import Derived.Deep.QuietTactic
import Derived.BigQuiet
import Derived.Outline
namespace Go.Proofs.Ytgelgpeabcmndaa.sp
open Go.ChangeShapes Go.WideShapes Go.ChangeAt Go.RowKit Go.Deep Go.Proofs.Ytgelgpeabcmndaa.sm Go.Proofs.Ytgelgpeabcmndaa.so
set_option linter.unusedVariables false
set_option linter.unusedSimpArgs false

/-- A row of places. -/
def iv (s : Nat → Nat) (p : Nat) : Value := .int .i64 (s p : Int)
/-- The state of the merge sort: the order so far and the spare row. -/
structure So (w0 wr : World) (gi gt n : Nat) (s t : Nat → Nat) : Prop where
  i : RowG wr gi 3 n (iv s)
  t : RowG wr gt 3 n (iv t)
  ne : gi ≠ gt
  i0 : w0.heap.size ≤ gi
  t0 : w0.heap.size ≤ gt
  bel : Below w0.heap.size w0 wr
theorem So.drew {w0 wr : World} {gi gt n : Nat} {s t : Nat → Nat} (h : So w0 wr gi gt n s t) : So w0 wr.drew gi gt n s t := ⟨h.i.drew, h.t.drew, h.ne, h.i0, h.t0, h.bel.drew⟩
theorem So.put {w0 wr : World} {gi gt n : Nat} {s t : Nat → Nat} (h : So w0 wr gi gt n s t) (k v : Nat) : So w0 (wr.setCell ⟨gt, k, none⟩ (.int .i64 (v : Int))) gi gt n s (setP t k v) := by
  refine ⟨h.i.other _ _ h.ne, (h.t.set k _).ext fun p _ => ?_, h.ne, h.i0, h.t0, h.bel.setCell h.t0 _⟩
  simp only [iv, setP]
  by_cases e : p = k
  · rw [if_pos e, if_pos e]
  · rw [if_neg e, if_neg e]
theorem So.swap {w0 wr : World} {gi gt n : Nat} {s t : Nat → Nat} (h : So w0 wr gi gt n s t) : So w0 wr gt gi n t s := ⟨h.t, h.i, h.ne.symm, h.t0, h.i0, h.bel⟩
theorem So.ci {w0 wr : World} {gi gt n : Nat} {s t : Nat → Nat} (h : So w0 wr gi gt n s t) {k : Nat} (hk : k < n) : wr.cell? ⟨gi, k, none⟩ = some (.int .i64 (s k : Int)) := h.i.cell hk
theorem So.ct {w0 wr : World} {gi gt n : Nat} {s t : Nat → Nat} (h : So w0 wr gi gt n s t) {k : Nat} (hk : k < n) : wr.cell? ⟨gt, k, none⟩ = some (.int .i64 (t k : Int)) := h.t.cell hk
def StP (K : Nat → Nat) (w : World) (n : Nat) (e : Ending) (w' : World) : Prop := ∃ g p, e = .returned (.slice (some ⟨g, 0, none⟩) n n) ∧ Sorted K n p ∧ (∀ i, i < n → w'.cell? ⟨g, i, none⟩ = some (.int .i64 (p i : Int))) ∧ Below w.heap.size w w'
def CutB (P : Prop) (v : Value) : Prop := ∃ c : Bool, v = .bool c ∧ (c = true ↔ P)
def Keys (w : World) (kb n : Nat) (K : Nat → Nat) : Prop := ∀ i, i < n → w.cell? ⟨kb, i, none⟩ = some (.int .u64 (K i : Int))
theorem Keys.at {w w' : World} {kb n : Nat} {K : Nat → Nat} (h : Keys w kb n K) (hb : Below w.heap.size w w') {i : Nat} (hi : i < n) : w'.cell? ⟨kb, i, none⟩ = some (.int .u64 (K i : Int)) :=
  (hb.cell (p := ⟨kb, i, none⟩) (block_lt_of_cell (h i hi))).trans (h i hi)
theorem info3 : (Try.prog.info? 3).map (fun i => (i.zero, i.size, i.bytes)) = some (some (Value.int .i64 0), 1, 8) := by kernel_rfl
theorem setP_lo {t t' : Nat → Nat} {k v lo j : Nat} (h : ∀ j, j < lo → t' j = t j) (hk : lo ≤ k) (hj : j < lo) : setP t' k v j = t j := by rw [setP_ne (by omega)]; exact h j hj

set_option maxRecDepth 100000 in
set_option maxHeartbeats 8000000 in
theorem stable (w : World) (kb n : Nat) (K : Nat → Nat) (hn : n ≤ 1024) (hK : Keys w kb n K) : Calls Try.prog 14 #[.slice (some ⟨kb, 0, none⟩) n n] w (StP K w n) := by
  have HK := Lib.hid hK
  clear hK
  have hmk := fun w => run_make_row' (P := Try.prog) 38 3 (Value.int .i64 0) 8 Try.underlying38 info3 rfl .i64 .i64 n (by omega) (by omega) w
  simp only [fillA_zero (fun i => Value.int .i64 (i : Int))] at hmk
  go_enter Try.func14, Try.ntmps14
  go_wp2_with fail
  go_loopw [5] (fun i wr => ∃ k : Nat, k ≤ n ∧ i = .int .i64 k ∧ w.alloc (.cells (fillA (fun i => Value.int .i64 (i : Int)) (Value.int .i64 0) k n) 3) = wr) (fun i _ => n - (intOf i).toNat)
  case atStart => exact ⟨0, by omega, rfl, rfl⟩
  case round =>
    obtain ⟨k, hk, rfl, rfl⟩ := hrel
    by_cases hlt : k < n
    · clear hmk
      have c2 : (fillA (fun i => Value.int .i64 (i : Int)) (Value.int .i64 0) k n)[k]? = some (Value.int .i64 0) := by rw [get_fillA _ _ _ _ _ hlt, if_neg (by omega)]
      have HF := Lib.hid (fillA_step (fun i => Value.int .i64 (i : Int)) (Value.int .i64 0) k n hlt)
      go_wp2_with fail
      go_roundw
      case rel => exact ⟨k + 1, by omega, by go_num, by rw [← HF.out]⟩
      case measure => simp [intOf]; omega
    · obtain rfl : k = n := by omega
      have hst : So w ((w.alloc (.cells (fillA (fun i => Value.int .i64 (i : Int)) (Value.int .i64 0) k k) 3)).alloc (.cells (fillA (fun i => Value.int .i64 (i : Int)) (Value.int .i64 0) 0 k) 3)) w.heap.size (w.heap.size + 1) k (fun p => p) (fun _ => 0) := by
        refine ⟨?_, ?_, by omega, Nat.le_refl _, by omega, ((Below.refl _ _).alloc (Nat.le_refl _) _).alloc (by simp) _⟩
        · have := (RowG.made w 3 (fillA (fun i => Value.int .i64 (i : Int)) (Value.int .i64 0) k k) (iv fun p => p) (fun p hp => by rw [size_fillA] at hp; rw [get_fillA _ _ _ _ _ hp, if_pos hp]; rfl)).alloc (.cells (fillA (fun i => Value.int .i64 (i : Int)) (Value.int .i64 0) 0 k) 3)
          simpa [size_fillA] using this
        · have := RowG.made (w.alloc (.cells (fillA (fun i => Value.int .i64 (i : Int)) (Value.int .i64 0) k k) 3)) 3 (fillA (fun i => Value.int .i64 (i : Int)) (Value.int .i64 0) 0 k) (iv fun _ => 0) (fun p hp => by rw [size_fillA] at hp; rw [get_fillA _ _ _ _ _ hp, if_neg (by omega)]; rfl)
          simpa [size_fillA] using this
      have HST := Lib.hid hst
      clear hst
      go_wp2_with fail
      clear hmk
      go_loopw [4, 6, 7] (fun v4 v6 v7 wr => ∃ (gi gt wd : Nat) (s t : Nat → Nat), v4 = .slice (some ⟨gi, 0, none⟩) k k ∧ v6 = .slice (some ⟨gt, 0, none⟩) k k ∧ v7 = .int .i64 wd ∧ 1 ≤ wd ∧ wd ≤ 2048 ∧ So w wr gi gt k s t ∧ Runs K k wd s) (fun _ _ v7 _ => k - (intOf v7).toNat)
      case atStart => exact ⟨_, _, 1, _, _, rfl, rfl, rfl, by omega, by omega, HST.out, Runs.start K k⟩
      case round =>
        clear HST
        obtain ⟨gi, gt, wd, s, t, rfl, rfl, rfl, hw1, hw2, hSo, hRun⟩ := hrel
        have HS := Lib.hid hSo
        have HR := Lib.hid hRun
        clear hSo hRun
        rename World => wa
        by_cases hlt : wd < k
        · go_wp2_with fail
          go_loopw [8] (fun v8 wp => ∃ (m lo : Nat) (t : Nat → Nat), lo = m * (2 * wd) ∧ v8 = .int .i64 lo ∧ lo ≤ 8192 ∧ So w wp gi gt k s t ∧ Pass K k wd lo t) (fun v8 _ => k + 2 * wd - (intOf v8).toNat)
          case atStart => exact ⟨0, 0, t, by simp, rfl, by omega, HS.out, Pass.start K k wd t⟩
          case round =>
            clear HS
            clear t
            obtain ⟨m, lo, t, hlo, rfl, hlob, hSo, hP⟩ := hrel
            have HLO := Lib.hid hlo
            have HS1 := Lib.hid hSo
            have HP := Lib.hid hP
            clear hlo hSo hP
            rename World => wp
            by_cases hlt2 : lo < k
            · obtain ⟨mid, hi, hmid, hhi⟩ : ∃ mid hi : Nat, mid = min (lo + wd) k ∧ hi = min (lo + 2 * wd) k := ⟨_, _, rfl, rfl⟩
              have HT : Hid (Two K s lo mid hi) := Lib.hid (by
                rcases HR.out.two m with h | h
                · rw [hmid, hhi, HLO.out]; exact h
                · rw [← HLO.out] at h; omega)
              have HFIN : Hid (∀ t3, Mrg K s t3 lo mid hi mid hi hi → (∀ j, j < lo → t3 j = t j) → Pass K k wd (lo + 2 * wd) t3) := Lib.hid (fun t3 h3 he => by
                have e1 := HLO.out
                rw [hmid, hhi, e1] at h3
                rw [e1] at he
                have hp := HP.out
                rw [e1] at hp
                have := hp.step hw1 (by rw [← e1]; exact hlt2) h3 he
                rw [e1, ← Nat.succ_mul]
                exact this)
              have HMID := Lib.hid hmid
              have HHI := Lib.hid hhi
              have b1 : lo ≤ mid ∧ mid ≤ k ∧ mid ≤ hi ∧ hi ≤ k ∧ hi ≤ lo + 2 * wd ∧ lo < hi := by omega
              obtain ⟨b1, b2, b3, b4, b5, b6⟩ := b1
              clear hmid hhi
              go_upto_if 46 with (fail)
              go_cut [9] (fun v9 wy => v9 = .int .i64 mid ∧ wp = wy)
              case first =>
                have hm := HMID.out
                by_cases hh : k < lo + wd
                · have e : mid = k := by omega
                  have HE := Lib.hid e
                  clear hm e
                  go_wp2_with fail
                  go_meet
                  exact ⟨by rw [HE.out], rfl⟩
                · have e : mid = lo + wd := by omega
                  have HE := Lib.hid e
                  clear hm e
                  go_wp2_with fail
                  go_meet
                  exact ⟨by rw [HE.out]; go_num, rfl⟩
              case rest =>
                obtain ⟨rfl, rfl⟩ := hcut
                go_upto_if 54 with (fail)
                go_cut [10] (fun v10 wy => v10 = .int .i64 hi ∧ wp = wy)
                case first =>
                  have hm := HHI.out
                  by_cases hh : k < lo + 2 * wd
                  · have e : hi = k := by omega
                    have HE := Lib.hid e
                    clear hm e
                    go_wp2_with fail
                    go_meet
                    exact ⟨by rw [HE.out], rfl⟩
                  · have e : hi = lo + 2 * wd := by omega
                    have HE := Lib.hid e
                    clear hm e
                    go_wp2_with fail
                    go_meet
                    exact ⟨by rw [HE.out]; go_num, rfl⟩
                case rest =>
                  obtain ⟨rfl, rfl⟩ := hcut
                  go_wp2_with fail
                  go_loopw [11, 12, 13] (fun v11 v12 v13 wx => ∃ (x y q : Nat) (t1 : Nat → Nat), v11 = .int .i64 x ∧ v12 = .int .i64 y ∧ v13 = .int .i64 q ∧ So w wx gi gt k s t1 ∧ Mrg K s t1 lo mid hi x y q ∧ ∀ j, j < lo → t1 j = t j) (fun v11 v12 _ _ => (mid - (intOf v11).toNat) + (hi - (intOf v12).toNat))
                  case atStart => exact ⟨lo, mid, lo, t, rfl, rfl, rfl, HS1.out, Mrg.start HT.out t, fun j hj => rfl⟩
                  case round =>
                    clear HS1
                    obtain ⟨x, y, q, t1, rfl, rfl, rfl, hSo1, hM, hl1⟩ := hrel
                    have HS2 := Lib.hid hSo1
                    have HM := Lib.hid hM
                    have HL1 := Lib.hid hl1
                    have m0 := hM.x0
                    have m1 := hM.x1
                    have m2 := hM.y0
                    have m3 := hM.y1
                    have m4 := hM.ek
                    have m5 : q + mid ≤ x + y ∧ x + y ≤ q + mid := by omega
                    clear hSo1 hl1 hM m4
                    rename World => wx
                    go_upto_region 23 with (fail)
                    go_cut [66] (fun v66 wy => CutB (x < mid ∧ y < hi) v66 ∧ wx = wy)
                    case first =>
                      by_cases hx : x < mid
                      · by_cases hy : y < hi
                        · go_wp2_with fail
                          go_meet
                          exact ⟨⟨true, rfl, by simp [hx, hy]⟩, rfl⟩
                        · go_wp2_with fail
                          go_meet
                          exact ⟨⟨false, rfl, by simp [hx, hy]⟩, rfl⟩
                      · go_wp2_with fail
                        go_meet
                        exact ⟨⟨false, rfl, by simp [hx]⟩, rfl⟩
                    case rest =>
                      obtain ⟨⟨c, rfl, hc⟩, rfl⟩ := hcut
                      cases c
                      case true =>
                        obtain ⟨hx, hy⟩ := hc.1 rfl
                        clear hc
                        have sx := HT.out.a1 x m0 hx
                        have sy := HT.out.a2 y m2 hy
                        obtain ⟨sx1, sx2⟩ := sx
                        obtain ⟨sy1, sy2⟩ := sy
                        have cx := HS2.out.ci (k := x) (by omega)
                        have cy := HS2.out.ci (k := y) (by omega)
                        have kx := HK.out.at HS2.out.bel (i := s x) (by omega)
                        have ky := HK.out.at HS2.out.bel (i := s y) (by omega)
                        have ct := HS2.out.ct (k := q) (by omega)
                        have ft := HS2.out.t.frozen q
                        have bx : 0 ≤ (s x : Int) ∧ (s x : Int) < (k : Int) := by omega
                        have by' : 0 ≤ (s y : Int) ∧ (s y : Int) < (k : Int) := by omega
                        by_cases hlt : K (s y) < K (s x)
                        · have hl : decide (K (s y) < K (s x)) = true := by simpa using hlt
                          have HLT := Lib.hid hlt
                          clear hlt
                          go_wp2_with fail
                          go_region
                          go_wp2_with fail
                          go_roundw
                          case rel => exact ⟨x, y + 1, q + 1, _, rfl, by go_num, by go_num, by first | exact HS2.out.put q (s y) | exact (HS2.out.put q (s y)).drew | exact HS2.out.drew.put q (s y), HM.out.takeY HT.out hy (fun _ => HLT.out), fun j hj => setP_lo HL1.out (by omega) hj⟩
                          case measure => simp [intOf]; omega
                        · have hl : decide (K (s y) < K (s x)) = false := by simpa using hlt
                          have HLT : Hid (K (s x) ≤ K (s y)) := Lib.hid (by omega)
                          clear hlt
                          go_wp2_with fail
                          go_region
                          go_wp2_with fail
                          go_roundw
                          case rel => exact ⟨x + 1, y, q + 1, _, by go_num, rfl, by go_num, by first | exact HS2.out.put q (s x) | exact (HS2.out.put q (s x)).drew | exact HS2.out.drew.put q (s x), HM.out.takeX HT.out hx (fun _ => HLT.out), fun j hj => setP_lo HL1.out (by omega) hj⟩
                          case measure => simp [intOf]; omega
                      case false =>
                        have hc' : x = mid ∨ y = hi := by
                          have h1 : ¬ (x < mid ∧ y < hi) := fun h => by have := hc.2 h; cases this
                          omega
                        have HC := Lib.hid hc'
                        clear hc hc'
                        go_wp2_with fail
                        go_loopw [11, 13] (fun v11 v13 wz => ∃ (x q : Nat) (t2 : Nat → Nat), v11 = .int .i64 x ∧ v13 = .int .i64 q ∧ So w wz gi gt k s t2 ∧ Mrg K s t2 lo mid hi x y q ∧ (∀ j, j < lo → t2 j = t j) ∧ (x = mid ∨ y = hi)) (fun v11 _ _ => mid - (intOf v11).toNat)
                        case atStart => exact ⟨x, q, t1, rfl, rfl, HS2.out, HM.out, HL1.out, HC.out⟩
                        case round =>
                          clear HS2 HM HL1 HC m0 m1 m2 m3 m5
                          obtain ⟨x, q, t2, rfl, rfl, hSo2, hM2, hl2, hxy⟩ := hrel
                          have HS3 := Lib.hid hSo2
                          have HM3 := Lib.hid hM2
                          have HL3 := Lib.hid hl2
                          have HXY := Lib.hid hxy
                          have m0 := hM2.x0
                          have m1 := hM2.x1
                          have m2 := hM2.y0
                          have m3 := hM2.y1
                          have m4 := hM2.ek
                          have m5 : q + mid ≤ x + y ∧ x + y ≤ q + mid := by omega
                          clear hSo2 hl2 hM2 hxy m4
                          rename World => wz
                          by_cases hx : x < mid
                          · have hyh : hi ≤ y := by have := HXY.out; omega
                            have cx := HS3.out.ci (k := x) (by omega)
                            have ct := HS3.out.ct (k := q) (by omega)
                            have ft := HS3.out.t.frozen q
                            go_wp2_with fail
                            go_roundw
                            case rel => exact ⟨x + 1, q + 1, _, by go_num, by go_num, HS3.out.put q (s x), HM3.out.takeX HT.out hx (fun h => by omega), fun j hj => setP_lo HL3.out (by omega) hj, .inr (by omega)⟩
                            case measure => simp [intOf]; omega
                          · have hxm : mid ≤ x := by omega
                            go_wp2_with fail
                            go_loopw [12, 13] (fun v12 v13 wv => ∃ (y q : Nat) (t3 : Nat → Nat), v12 = .int .i64 y ∧ v13 = .int .i64 q ∧ So w wv gi gt k s t3 ∧ Mrg K s t3 lo mid hi x y q ∧ (∀ j, j < lo → t3 j = t j)) (fun v12 _ _ => hi - (intOf v12).toNat)
                            case atStart => exact ⟨y, q, t2, rfl, rfl, HS3.out, HM3.out, HL3.out⟩
                            case round =>
                              clear HS3 HM3 HL3 HXY m0 m1 m2 m3 m5
                              obtain ⟨y, q, t3, rfl, rfl, hSo3, hM3, hl3⟩ := hrel
                              have HS4 := Lib.hid hSo3
                              have HM4 := Lib.hid hM3
                              have HL4 := Lib.hid hl3
                              have m0 := hM3.x0
                              have m1 := hM3.x1
                              have m2 := hM3.y0
                              have m3 := hM3.y1
                              have m4 := hM3.ek
                              have m5 : q + mid ≤ x + y ∧ x + y ≤ q + mid := by omega
                              clear hSo3 hl3 hM3 m4
                              rename World => wv
                              by_cases hy : y < hi
                              · have cy := HS4.out.ci (k := y) (by omega)
                                have ct := HS4.out.ct (k := q) (by omega)
                                have ft := HS4.out.t.frozen q
                                go_wp2_with fail
                                go_roundw
                                case rel => exact ⟨y + 1, q + 1, _, by go_num, by go_num, HS4.out.put q (s y), HM4.out.takeY HT.out hy (fun h => by omega), fun j hj => setP_lo HL4.out (by omega) hj⟩
                                case measure => simp [intOf]; omega
                              · go_wp2_with fail
                                go_roundw
                                case rel =>
                                  have ex : x = mid := by omega
                                  have ey : y = hi := by omega
                                  have eq : q = hi := by omega
                                  have h := HM4.out
                                  rw [ex, ey, eq] at h
                                  exact ⟨m + 1, lo + 2 * wd, t3, by rw [Nat.add_mul, Nat.one_mul, ← HLO.out], by go_num, by omega, HS4.out, HFIN.out t3 h HL4.out⟩
                                case measure => simp [intOf]; omega
            · go_wp2_with fail
              go_roundw
              case rel => exact ⟨gt, gi, 2 * wd, t, s, rfl, rfl, by go_num, by omega, by omega, HS1.out.swap, HP.out.done (by omega)⟩
              case measure => simp [intOf]; omega
        · go_wp2_with fail
          go_ret
          exact ⟨gi, s, rfl, HR.out.done (by omega), fun i hi => HS.out.ci hi, HS.out.bel⟩
end Go.Proofs.Ytgelgpeabcmndaa.sp
