/-
  The set of reported names is exactly the set of the names: the walk.
-/
import Derived.Test.YtlnmobagimhcgaaRd
import Derived.BigQuiet
namespace Go.Proofs.Ytlnmobagimhcgaa.nm
open Go.ChangeShapes Go.WideShapes Go.ChangeAt Go.RowKit Go.Deep Go.Maps
set_option linter.unusedVariables false

theorem below_drewN {B : Nat} {a w : World} (h : Below B a w) (n : Nat) : Below B a (w.drewN n) := h.trans ⟨rfl, rfl, rfl, Nat.le_refl _, fun _ _ => rfl⟩
def Yes (w : World) (e : Ending) (w' : World) : Prop := e = .returned (.bool true) ∧ Below w.heap.size w w'
theorem length_namesTo (V : Nat → ByteArray) (k : Nat) : (namesTo V k).length = k := by simp [namesTo]
theorem namesTo_nil (V : Nat → ByteArray) (k : Nat) : namesTo V k = [] ↔ k = 0 := by
  rw [← List.length_eq_zero_iff, length_namesTo]
theorem told_pos {n : Int} (h : 0 < n) (L : List ByteArray) : told n L = L := if_pos h
theorem told_neg {n : Int} (h : ¬ 0 < n) (L : List ByteArray) : told n L = [] := if_neg h

set_option maxRecDepth 100000 in
set_option maxHeartbeats 4000000 in
theorem main (n : Int) (a : Option Addr) (len cap : Nat) (V : Nat → ByteArray) (s : ByteArray) (w : World) (ha : a = none → len = 0 ∧ cap = 0) (hrow : Row w a len fun i => .string (V i)) (hsz : ∀ i, (V i).size ≤ maxLen) (hs : s.size ≤ maxLen) :
    Calls Try.prog 4 #[.int .i64 n, .slice a len cap, .string s] w (Yes w) := by
  have HR := Lib.hid hrow
  have HA := Lib.hid ha
  have HS := Lib.hid hsz
  have HSS := Lib.hid hs
  clear hrow ha hsz hs
  go_enter Try.func4, Try.ntmps4
  go_wp2_with fail
  refine (bytes11 w n a len cap V s HR.out).mono ?_
  rintro e w' ⟨⟨b, rfl⟩, rfl⟩
  cases b
  · go_simp
    go_wp2_with fail
    go_ret
    exact ⟨rfl, Below.refl _ _⟩
  by_cases g1 : len ≤ 4096
  rotate_left
  · go_simp
    go_wp2_with fail
    go_ret
    exact ⟨rfl, Below.refl _ _⟩
  by_cases g2 : s.size ≤ 1048576
  rotate_left
  · go_simp
    go_wp2_with fail
    go_ret
    exact ⟨rfl, Below.refl _ _⟩
  go_simp
  go_wp2_with fail
  refine (nbytes w a len cap V (by omega) HR.out).mono ?_
  rintro e w' ⟨⟨c, rfl⟩, rfl⟩
  go_simp
  go_wp2_with fail
  · go_ret
    exact ⟨rfl, Below.refl _ _⟩
  refine (clone_all w a len cap V (by omega) HA.out HR.out).mono ?_
  rintro e w1 ⟨a', c', rfl, hrow1, bel1⟩
  have HR1 := Lib.hid hrow1
  have HB1 := Lib.hid bel1
  clear hrow1 bel1
  go_simp
  go_wp2_with fail
  refine (newP w1 n).mono ?_
  rintro e w2 ⟨g, rfl, hst, bel2⟩
  have HST := Lib.hid hst
  have HB2 := Lib.hid bel2
  clear hst bel2
  go_simp
  go_wp2_with fail
  go_loopw [8] (fun i wr => ∃ k : Nat, k ≤ len ∧ i = .int .i64 k ∧ St w1.heap.size wr g n (told n (namesTo V k)) ∧ Below w1.heap.size w1 wr) (fun i _ => len - (intOf i).toNat)
  case atStart => exact ⟨0, by omega, rfl, by simpa [told, namesTo] using HST.out, HB2.out⟩
  case round =>
    obtain ⟨k, hk, rfl, hst, bel⟩ := hrel
    have HT := Lib.hid hst
    have HB := Lib.hid bel
    clear hst bel
    by_cases hlt : k < len
    · obtain ⟨b, off, rfl, hcell⟩ := (HR1.out.below HB.out) (by omega)
      have c1 := hcell k hlt
      clear hcell
      go_wp2_with fail
      refine (rep w1.heap.size _ g n (namesTo V k) (V k) (HS.out k) HT.out HB.out.size (by rw [length_namesTo]; unfold maxLen; omega)).mono ?_
      rintro e w' ⟨rfl, hst', bel'⟩
      have HT' := Lib.hid hst'
      have HB' := Lib.hid bel'
      clear hst' bel'
      go_simp
      go_wp2_with fail
      go_roundw
      case rel => exact ⟨k + 1, by omega, by go_num, by rw [namesTo_succ]; exact HT'.out, HB.out.trans HB'.out⟩
      case measure => simp [intOf]; omega
    · obtain rfl : k = len := by omega
      go_wp2_with fail
      refine (lowerAll w1.heap.size _ g n _ HT.out).mono ?_
      rintro e w' ⟨⟨m, rfl, hm⟩, rfl⟩
      have HM := Lib.hid hm
      clear hm
      have heq := fun (w : World) (r : Option Nat) => run_eql_map_nil (P := Try.prog) w 29 9 4 r Try.underlying29
      have hBel := HB1.out.trans (HB.out.mono HB1.out.size)
      have HBW := Lib.hid hBel
      clear hBel
      by_cases hn : 0 < n
      rotate_left
      · have hmn : m.isNone = true := by rw [HM.out.isNone, told_neg hn]; simp
        go_simp
        go_wp2_with fail
        go_ret
        exact ⟨rfl, HBW.out⟩
      · have hM : MapIs wr m (namesTo V k) := by have := HM.out; rw [told_pos hn] at this; exact this
        have hmn : m.isNone = ((k : Int) == 0) := by
          rw [hM.isNone, Bool.eq_iff_iff]
          simp [namesTo_nil]
        have hlen := fun ty => hM.len ty
        have hRW := HR1.out.below HB.out
        have HRW := Lib.hid hRW
        have HM2 := Lib.hid hM
        clear hM hRW
        go_simp
        go_wp2_with fail
        go_loopw [10] (fun i wr' => ∃ j : Nat, j ≤ k ∧ i = .int .i64 j ∧ wr = wr') (fun i _ => k - (intOf i).toNat)
        case atStart => exact ⟨0, by omega, rfl, rfl⟩
        case round =>
          obtain ⟨j, hj, rfl, rfl⟩ := hrel
          by_cases hjk : j < k
          · obtain ⟨b, off, rfl, hcell⟩ := HRW.out (by omega)
            have c1 := hcell j hjk
            clear hcell
            have q := HM2.out.look (HS.out j)
            rw [isIn_yes hjk rfl] at q
            go_wp2_with fail
            go_roundw
            case rel => exact ⟨j + 1, by omega, by go_num, trivial⟩
            case measure => simp [intOf]; omega
          · obtain rfl : j = k := by omega
            go_wp2_with fail
            refine (distinct _ a' j c' V (by omega) HRW.out).mono ?_
            rintro e w' ⟨nq, rfl, rfl⟩
            have hcn : (Maps.size (setN (namesTo V j)) : Int) = (cnt V j : Int) := rfl
            go_simp
            go_wp2_with fail
            have hMq := HM2.out.below (below_drewN (Below.refl wr.heap.size wr) nq)
            have hRq := HRW.out.below (below_drewN (Below.refl wr.heap.size wr) nq)
            have hBq := below_drewN HBW.out nq
            clear hlen
            generalize wr.drewN nq = wq at hMq hRq hBq ⊢
            have q := fun nn => (hMq.below (below_drewN (Below.refl wq.heap.size wq) nn)).look HSS.out
            have HRQ := Lib.hid hRq
            have HBQ := Lib.hid hBq
            clear hMq hRq hBq
            go_quiet (first | (go_at_call 13; exact Calls.quiet_of_same ((contains _ _ _ _ V s (by omega) (HRQ.out.below (below_drewN (Below.refl _ _) _))).mono fun _ _ h => ⟨h.1, h.2.symm⟩)))
            go_wp2_with fail
            go_ret
            exact ⟨by simp, below_drewN HBQ.out _⟩
end Go.Proofs.Ytlnmobagimhcgaa.nm
