/-
  Link tables: the model of roots, walked.
-/
import Derived.Test.YtnemldibhdphoaaDoorRs
namespace Go.Proofs.YtnemldibhdphoaaDoor.lk
open Go.ChangeShapes Go.WideShapes Go.ChangeAt Go.RowKit Go.Deep
set_option linter.unusedVariables false
set_option linter.unusedSimpArgs false

set_option maxRecDepth 100000 in
set_option maxHeartbeats 4000000 in
theorem roots7 (w : World) (a : Option Addr) (n cap : Nat) (L : Nat → Int) (hn : n ≤ 65536) (hrow : Row w a n (fun i => .int .i64 (L i))) (hF : ∀ i, i < n → L i < n) :
    Calls Tryd.prog 7 #[.slice a n cap] w (RtP w n (lnk L)) := by
  have HR := Lib.hid hrow
  have HFit : Hid (Fits n (lnk L)) := Lib.hid (fun i j hi hj => by
    unfold lnk at hj; split at hj
    · cases hj
    · cases hj; have := hF i hi; omega)
  have HF := Lib.hid hF
  clear hrow hF
  have hmk := made26 n (by omega)
  go_enter Tryd.func7, Tryd.ntmps7
  go_wp2_with fail
  have HB0 : Hid (Below w.heap.size w (w.alloc (.cells (madeCells #[.int .i64 0] n) 2))) := Lib.hid ((Below.refl _ _).alloc (Nat.le_refl _) _)
  have HR0 : Hid ((w.alloc (.cells (madeCells #[.int .i64 0] n) 2)).rowIs w.heap.size 2 n (fun _ => .int .i64 0)) := Lib.hid (World.rowIs_made _ _ _ _)
  clear hmk
  generalize w.alloc (.cells (madeCells #[.int .i64 0] n) 2) = w1 at *
  go_loopw [6] (fun i wr => ∃ (k : Nat) (f : Nat → Int), k ≤ n ∧ i = .int .i64 k ∧ wr.rowIs w.heap.size 2 n (fun i => .int .i64 (f i)) ∧ (∀ j, j < k → f j = -2) ∧ Below w.heap.size w wr) (fun i _ => n - (intOf i).toNat)
  case atStart => exact ⟨0, fun _ => 0, by omega, rfl, HR0.out, fun j hj => by omega, HB0.out⟩
  case round =>
    clear HR0 HB0
    obtain ⟨k, f, hk, rfl, hrw, hf, hB⟩ := hrel
    have HRW := Lib.hid hrw
    have HFF := Lib.hid hf
    have HB := Lib.hid hB
    clear hrw hf hB
    by_cases hlt : k < n
    · have d1 := HRW.out.cell hlt
      have d2 := HRW.out.frozen k
      go_wp2_with fail
      go_roundw
      case rel =>
        refine ⟨k + 1, updI f k (-2), by omega, by go_num, (HRW.out.set k (.int .i64 (-2))).congr (fun i _ => by simp only [updI]; split <;> rfl), fun j hj => ?_, HB.out.trans ⟨rfl, rfl, rfl, by simp [World.setCell], fun b hb => Below.heap_setCell _ _ _ _ (by show b ≠ w.heap.size; omega)⟩⟩
        unfold updI; split
        · rfl
        · exact HFF.out j (by omega)
      case measure => simp [intOf]; omega
    · obtain rfl : k = n := by omega
      have hmk := made38
      go_wp2_with fail
      clear hmk
      rename World => wq
      have HS1 := Lib.hid (Rs.start HRW.out HB.out)
      have HK1 : Hid (Known k (lnk L) f) := Lib.hid (fun i hi => .inl (HFF.out i hi))
      clear HRW HB HFF
      generalize wq.alloc (.cells (madeCells #[.int .i64 0] 16) 3) = w3 at *
      generalize wq.heap.size = SB0 at *
      obtain ⟨n, rfl⟩ : ∃ n, n = k := ⟨k, rfl⟩
      go_loopw [7, 8] (fun s i wr => ∃ (k : Nat) (f : Nat → Int) (St : List Nat) (m SB c : Nat), k ≤ n ∧ s = .slice (some ⟨SB, 0, none⟩) m c ∧ i = .int .i64 k ∧ Rs w n f St m SB c wr ∧ Known n (lnk L) f ∧ ∀ j, j < k → f j ≠ -2) (fun _ i _ => n - (intOf i).toNat)
      case atStart => exact ⟨0, f, [], 0, SB0, 16, by omega, rfl, rfl, HS1.out, HK1.out, fun j hj => by omega⟩
      case round =>
        clear HS1 HK1
        obtain ⟨k, f, St, m, SB, c, hk2, rfl, rfl, hS, hK, hO⟩ := hrel
        have HS := Lib.hid hS
        have HK := Lib.hid hK
        have HO := Lib.hid hO
        clear hS hK hO
        by_cases hlt2 : k < n
        · obtain ⟨d1, d2⟩ := HS.out.get hlt2
          by_cases hknown : (f k != -2) = true
          · go_wp2_with fail
            go_roundw
            case rel =>
              refine ⟨k + 1, f, St, m, SB, c, by omega, rfl, by go_num, HS.out, HK.out, fun j hj => ?_⟩
              by_cases e : j = k
              · subst e; simpa using hknown
              · exact HO.out j (by omega)
            case measure => simp [intOf]; omega
          · have hk3 : (f k != -2) = false := by simpa using hknown
            clear hknown
            go_wp2_with fail
            have HS0 := Lib.hid HS.out.reset
            clear HS d1 d2
            go_loopw [7, 9, 11] (fun s xv t wr => ∃ (x : Nat) (St : List Nat) (m SB c : Nat), x < n ∧ s = .slice (some ⟨SB, 0, none⟩) m c ∧ xv = .int .i64 x ∧ t = .int .i64 m ∧ m ≤ n ∧ Rs w n f St m SB c wr ∧ Rn (lnk L) k x m ∧ (k = x ∨ k ∈ St) ∧ ∀ s ∈ St, s < n ∧ Rc (lnk L) s x) (fun _ _ t _ => n + 1 - (intOf t).toNat)
            case atStart => exact ⟨k, [], 0, SB, c, hlt2, rfl, rfl, rfl, by omega, HS0.out, .here, .inl rfl, fun s hs => by cases hs⟩
            case round =>
              clear HS0
              obtain ⟨x, St, m, SB, c, hx, rfl, rfl, rfl, hm, hS, hN, hkx, hst⟩ := hrel
              have HS := Lib.hid hS
              have HN := Lib.hid hN
              have HKX := Lib.hid hkx
              have HST := Lib.hid hst
              clear hS hN hkx hst
              obtain ⟨g1, g2⟩ := HS.out.get hx
              by_cases hkn : (f x != -2) = true
              · obtain ⟨r, hr, hrt⟩ : ∃ r : Nat, f x = r ∧ Rt (lnk L) x r := by
                  rcases HK.out x hx with h | h
                  · simp [h] at hkn
                  · exact h
                have HRT := Lib.hid hrt
                rw [hr] at g1 hkn
                have HRX := Lib.hid hr
                clear hrt hr
                obtain ⟨g1, g2⟩ := HS.out.get hx
                go_wp2_with fail
                have HS2 : Hid (Rs w n (updI f x r) St m SB c _) := Lib.hid (HS.out.set x r)
                have HK2 : Hid (Known n (lnk L) (updI f x r)) := Lib.hid (HK.out.upd HRT.out)
                have HO2 : Hid (∀ i, i < k → updI f x r i ≠ -2) := Lib.hid (fun i hi => upd_known (HO.out i hi))
                have HX2 : Hid (updI f x r x ≠ -2) := Lib.hid upd_self
                clear g1 g2 HS
                clear HK HO
                generalize updI f x r = f2 at *
                rename World => wz
                go_loopw [12] (fun j wr => ∃ (j' : Nat) (f3 : Nat → Int), j' ≤ m ∧ j = .int .i64 j' ∧ Rs w n f3 St m SB c wr ∧ Known n (lnk L) f3 ∧ (∀ i, i < k → f3 i ≠ -2) ∧ f3 x ≠ -2 ∧ ∀ q s, q < j' → St[q]? = some s → f3 s ≠ -2) (fun j _ => m - (intOf j).toNat)
                case atStart => exact ⟨0, f2, by omega, rfl, HS2.out, HK2.out, HO2.out, HX2.out, fun q s hq => by omega⟩
                case round =>
                  clear HS2 HK2 HO2 HX2
                  obtain ⟨j, f3, hj, rfl, hS, hK, hO, hX, hQ⟩ := hrel
                  have HS := Lib.hid hS
                  have HK := Lib.hid hK
                  have HO := Lib.hid hO
                  have HX := Lib.hid hX
                  have HQ := Lib.hid hQ
                  clear hS hK hO hX hQ
                  by_cases hjm : j < m
                  · obtain ⟨s, hs⟩ : ∃ s, St[j]? = some s := ⟨_, List.getElem?_eq_getElem (by rw [← HS.out.1]; exact hjm)⟩
                    obtain ⟨hsn, hsx⟩ := HST.out s (List.mem_of_getElem? hs)
                    have d1 := HS.out.top hs
                    obtain ⟨d2, d3⟩ := HS.out.get hsn
                    have HSS := Lib.hid hs
                    have HSX := Lib.hid hsx
                    clear hs hsx
                    go_wp2_with fail
                    go_roundw
                    case rel =>
                      refine ⟨j + 1, updI f3 s r, by omega, by go_num, HS.out.set s r, HK.out.upd (Rt.back HSX.out HRT.out), fun i hi => upd_known (HO.out i hi), upd_known HX.out, fun q s' hq hs' => ?_⟩
                      by_cases e : q = j
                      · subst e
                        have := HSS.out.symm.trans hs'
                        simp only [Option.some.injEq] at this
                        subst this
                        exact upd_self
                      · exact upd_known (HQ.out q s' (by omega) hs')
                    case measure => simp [intOf]; omega
                  · obtain rfl : j = m := by omega
                    go_wp2_with fail
                    go_roundw
                    case rel =>
                      refine ⟨k + 1, f3, St, j, SB, c, by omega, rfl, by go_num, HS.out, HK.out, fun i hi => ?_⟩
                      by_cases e : i = k
                      · subst e
                        rcases HKX.out with e | hm
                        · rw [e]; exact HX.out
                        · obtain ⟨q, hq, e⟩ := List.getElem_of_mem hm
                          exact HQ.out q _ (by rw [HS.out.1]; exact hq) (by rw [List.getElem?_eq_getElem hq, e])
                      · exact HO.out i (by omega)
                    case measure => simp [intOf]; omega
              · have hk4 : (f x != -2) = false := by simpa using hkn
                clear hkn
                obtain ⟨b, off, rfl, hcell⟩ := (HR.out.below HS.out.bel) (by omega)
                have e1 : _ = some (Value.int .i64 (L x)) := hcell x hx
                have HFx := HF.out x hx
                clear hcell
                by_cases hneg : L x < 0
                · have HRT : Hid (Rt (lnk L) x x) := Lib.hid (Rt.self (by simp [lnk, hneg]))
                  obtain ⟨g1, g2⟩ := HS.out.get hx
                  go_wp2_with fail
                  have HS2 : Hid (Rs w n (updI f x x) St m SB c _) := Lib.hid (HS.out.set x x)
                  have HK2 : Hid (Known n (lnk L) (updI f x x)) := Lib.hid (HK.out.upd HRT.out)
                  have HO2 : Hid (∀ i, i < k → updI f x x i ≠ -2) := Lib.hid (fun i hi => upd_known (HO.out i hi))
                  have HX2 : Hid (updI f x x x ≠ -2) := Lib.hid upd_self
                  clear g1 g2 HS
                  clear HK HO
                  generalize updI f x x = f2 at *
                  rename World => wz
                  go_loopw [12] (fun j wr => ∃ (j' : Nat) (f3 : Nat → Int), j' ≤ m ∧ j = .int .i64 j' ∧ Rs w n f3 St m SB c wr ∧ Known n (lnk L) f3 ∧ (∀ i, i < k → f3 i ≠ -2) ∧ f3 x ≠ -2 ∧ ∀ q s, q < j' → St[q]? = some s → f3 s ≠ -2) (fun j _ => m - (intOf j).toNat)
                  case atStart => exact ⟨0, f2, by omega, rfl, HS2.out, HK2.out, HO2.out, HX2.out, fun q s hq => by omega⟩
                  case round =>
                    clear HS2 HK2 HO2 HX2
                    obtain ⟨j, f3, hj, rfl, hS, hK, hO, hX, hQ⟩ := hrel
                    have HS := Lib.hid hS
                    have HK := Lib.hid hK
                    have HO := Lib.hid hO
                    have HX := Lib.hid hX
                    have HQ := Lib.hid hQ
                    clear hS hK hO hX hQ
                    by_cases hjm : j < m
                    · obtain ⟨s, hs⟩ : ∃ s, St[j]? = some s := ⟨_, List.getElem?_eq_getElem (by rw [← HS.out.1]; exact hjm)⟩
                      obtain ⟨hsn, hsx⟩ := HST.out s (List.mem_of_getElem? hs)
                      have d1 := HS.out.top hs
                      obtain ⟨d2, d3⟩ := HS.out.get hsn
                      have HSS := Lib.hid hs
                      have HSX := Lib.hid hsx
                      clear hs hsx
                      go_wp2_with fail
                      go_roundw
                      case rel =>
                        refine ⟨j + 1, updI f3 s x, by omega, by go_num, HS.out.set s x, HK.out.upd (Rt.back HSX.out HRT.out), fun i hi => upd_known (HO.out i hi), upd_known HX.out, fun q s' hq hs' => ?_⟩
                        by_cases e : q = j
                        · subst e
                          have := HSS.out.symm.trans hs'
                          simp only [Option.some.injEq] at this
                          subst this
                          exact upd_self
                        · exact upd_known (HQ.out q s' (by omega) hs')
                      case measure => simp [intOf]; omega
                    · obtain rfl : j = m := by omega
                      go_wp2_with fail
                      go_roundw
                      case rel =>
                        refine ⟨k + 1, f3, St, j, SB, c, by omega, rfl, by go_num, HS.out, HK.out, fun i hi => ?_⟩
                        by_cases e : i = k
                        · subst e
                          rcases HKX.out with e | hm
                          · rw [e]; exact HX.out
                          · obtain ⟨q, hq, e⟩ := List.getElem_of_mem hm
                            exact HQ.out q _ (by rw [HS.out.1]; exact hq) (by rw [List.getElem?_eq_getElem hq, e])
                        · exact HO.out i (by omega)
                      case measure => simp [intOf]; omega
                · obtain ⟨y, hy⟩ : ∃ y : Nat, L x = y := ⟨(L x).toNat, by omega⟩
                  rw [hy] at e1 HFx
                  have hyn : y < n := by omega
                  have HY : Hid (lnk L x = some y) := Lib.hid (by unfold lnk; rw [if_neg hneg, hy]; simp)
                  clear hneg hy
                  obtain ⟨SB', c', w4, hr4, hS4⟩ := HS.out.push x (by omega)
                  have HR4 := Lib.hid hr4
                  have HS4 := Lib.hid hS4
                  clear hr4 hS4
                  obtain ⟨b2, off2, e2, hcell⟩ := (HR.out.below HS4.out.bel) (by omega)
                  simp only [Option.some.injEq, Addr.mk.injEq, and_true] at e2
                  obtain ⟨rfl, rfl⟩ := e2
                  have e3 : _ = some (Value.int .i64 (L x)) := hcell x hx
                  rw [show L x = (y : Int) by have := HY.out; unfold lnk at this; split at this <;> simp at this; omega] at e3
                  clear hcell
                  by_cases hmn : m + 1 ≤ n
                  · go_wp2_with (at_builtin; refine wpList_append_run rfl (.tmp 54) (.tmp 56) 38 rfl rfl rfl HR4.out ?_)
                    go_roundw
                    case rel =>
                      refine ⟨y, St ++ [x], m + 1, SB', c', hyn, rfl, rfl, by go_num, hmn, HS4.out, HN.out.snoc HY.out, ?_, fun s hs => ?_⟩
                      · rcases HKX.out with h | h
                        · subst h; exact .inr (by simp)
                        · exact .inr (by simp [h])
                      · rcases List.mem_append.1 hs with h | h
                        · have := HST.out s h; exact ⟨this.1, this.2.snoc HY.out⟩
                        · rw [List.mem_singleton.1 h]; exact ⟨hx, .step HY.out .refl⟩
                    case measure => simp [intOf]; omega
                  · obtain rfl : m = n := by omega
                    go_wp2_with (at_builtin; refine wpList_append_run rfl (.tmp 54) (.tmp 56) 38 rfl rfl rfl HR4.out ?_)
                    go_ret2
                    refine RtP.no HS4.out.bel (fun hall => ?_)
                    obtain ⟨r, hr⟩ := hall k hlt2
                    have := (HN.out.snoc HY.out).lt HFit.out hlt2 hr
                    omega
        · obtain rfl : k = n := by omega
          go_wp2_with fail
          go_ret2
          exact RtP.yes HS.out HK.out HO.out
end Go.Proofs.YtnemldibhdphoaaDoor.lk
