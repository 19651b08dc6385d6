/-
  Reporting names forwards once and backwards twice leaves the same set: the walk.
-/
import Derived.Test.YtlnmobagimhcgaaEx
namespace Go.Proofs.Ytlnmobagimhcgaa.nm
open Go.ChangeShapes Go.WideShapes Go.ChangeAt Go.RowKit Go.Deep Go.Maps
set_option linter.unusedVariables false

/-- The names from the last back to number d, each twice. -/
def dbl (V : Nat → ByteArray) (len : Nat) : Nat → List ByteArray
  | 0 => []
  | t + 1 => (dbl V len t ++ [V (len - 1 - t)]) ++ [V (len - 1 - t)]
theorem length_dbl (V : Nat → ByteArray) (len : Nat) : ∀ t, (dbl V len t).length = 2 * t
  | 0 => rfl
  | t + 1 => by simp [dbl, length_dbl V len t]; omega
theorem mem_dbl (V : Nat → ByteArray) (len : Nat) (s : ByteArray) : ∀ t, t ≤ len → (s ∈ dbl V len t ↔ ∃ j, len - t ≤ j ∧ j < len ∧ V j = s)
  | 0, _ => by simp [dbl]; intro j h1 h2; omega
  | t + 1, h => by
    simp only [dbl, List.mem_append, List.mem_singleton]
    rw [mem_dbl V len s t (by omega)]
    constructor
    · rintro ((⟨j, h1, h2, h3⟩ | rfl) | rfl)
      · exact ⟨j, by omega, h2, h3⟩
      · exact ⟨len - 1 - t, by omega, by omega, rfl⟩
      · exact ⟨len - 1 - t, by omega, by omega, rfl⟩
    · rintro ⟨j, h1, h2, h3⟩
      by_cases e : j = len - 1 - t
      · subst e; exact .inr h3.symm
      · exact .inl (.inl ⟨j, by omega, h2, h3⟩)
theorem mem_dbl_all (V : Nat → ByteArray) (len : Nat) (s : ByteArray) : s ∈ namesTo V len ↔ s ∈ dbl V len len := by
  rw [mem_dbl V len s len (Nat.le_refl _), mem_namesTo]
  simp
theorem mem_told (n : Int) (L1 L2 : List ByteArray) (h : ∀ s, s ∈ L1 ↔ s ∈ L2) (s : ByteArray) : s ∈ told n L1 ↔ s ∈ told n L2 := by
  unfold told; split
  · exact h s
  · rfl
theorem isIn_congr {L1 L2 : List ByteArray} (h : ∀ s, s ∈ L1 ↔ s ∈ L2) (s : ByteArray) : isIn s L2 = isIn s L1 := by
  rw [Bool.eq_iff_iff, isIn_iff, isIn_iff, h s]
theorem isNone_congr {w1 w2 : World} {m1 m2 : Option Nat} {L1 L2 : List ByteArray} (h1 : MapIs w1 m1 L1) (h2 : MapIs w2 m2 L2) (h : ∀ s, s ∈ L1 ↔ s ∈ L2) : m2.isNone = m1.isNone := by
  rw [h1.isNone, h2.isNone, decide_eq_decide]
  constructor
  · rintro rfl; cases L1 with
    | nil => rfl
    | cons a l => have := (h a).1 (by simp); simp at this
  · rintro rfl; cases L2 with
    | nil => rfl
    | cons a l => have := (h a).2 (by simp); simp at this

set_option maxRecDepth 100000 in
set_option maxHeartbeats 4000000 in
theorem main2 (n : Int) (a : Option Addr) (len cap : Nat) (V : Nat → ByteArray) (s : ByteArray) (w : World) (ha : a = none → len = 0 ∧ cap = 0) (hrow : Row w a len fun i => .string (V i)) (hsz : ∀ i, (V i).size ≤ maxLen) (hs : s.size ≤ maxLen) :
    Calls Try.prog 3 #[.int .i64 n, .slice a len cap, .string s] w (Yes w) := by
  have HR := Lib.hid hrow
  have HA := Lib.hid ha
  have HS := Lib.hid hsz
  have HSS := Lib.hid hs
  clear hrow ha hsz hs
  go_enter Try.func3, Try.ntmps3
  go_wp2_with fail
  refine (bytes5 w n a len cap V s HR.out).mono ?_
  rintro e w' ⟨⟨b, rfl⟩, rfl⟩
  cases b
  · go_simp
    go_wp2_with fail
    go_ret
    exact ⟨rfl, Below.refl _ _⟩
  by_cases g1 : len ≤ 4096
  rotate_left
  · go_simp
    go_wp2_with fail
    go_ret
    exact ⟨rfl, Below.refl _ _⟩
  by_cases g2 : s.size ≤ 1048576
  rotate_left
  · go_simp
    go_wp2_with fail
    go_ret
    exact ⟨rfl, Below.refl _ _⟩
  go_simp
  go_wp2_with fail
  refine (nbytes w a len cap V (by omega) HR.out).mono ?_
  rintro e w' ⟨⟨c, rfl⟩, rfl⟩
  go_simp
  go_wp2_with fail
  · go_ret
    exact ⟨rfl, Below.refl _ _⟩
  refine (clone_all w a len cap V (by omega) HA.out HR.out).mono ?_
  rintro e w1 ⟨a', c', rfl, hrow1, bel1⟩
  have HR1 := Lib.hid hrow1
  have HB1 := Lib.hid bel1
  clear hrow1 bel1
  go_simp
  go_wp2_with fail
  refine (newP w1 n).mono ?_
  rintro e w2 ⟨g, rfl, hst, bel2⟩
  have HST := Lib.hid hst
  have HB2 := Lib.hid bel2
  clear hst bel2
  go_simp
  go_wp2_with fail
  go_loopw [8] (fun i wr => ∃ k : Nat, k ≤ len ∧ i = .int .i64 k ∧ St w1.heap.size wr g n (told n (namesTo V k)) ∧ Below w1.heap.size w1 wr) (fun i _ => len - (intOf i).toNat)
  case atStart => exact ⟨0, by omega, rfl, by simpa [told, namesTo] using HST.out, HB2.out⟩
  case round =>
    obtain ⟨k, hk, rfl, hst, bel⟩ := hrel
    have HT := Lib.hid hst
    have HB := Lib.hid bel
    clear hst bel
    by_cases hlt : k < len
    · obtain ⟨b, off, rfl, hcell⟩ := (HR1.out.below HB.out) (by omega)
      have c1 := hcell k hlt
      clear hcell
      go_wp2_with fail
      refine (rep w1.heap.size _ g n (namesTo V k) (V k) (HS.out k) HT.out HB.out.size (by rw [length_namesTo]; unfold maxLen; omega)).mono ?_
      rintro e w' ⟨rfl, hst', bel'⟩
      have HT' := Lib.hid hst'
      have HB' := Lib.hid bel'
      clear hst' bel'
      go_simp
      go_wp2_with fail
      go_roundw
      case rel => exact ⟨k + 1, by omega, by go_num, by rw [namesTo_succ]; exact HT'.out, HB.out.trans HB'.out⟩
      case measure => simp [intOf]; omega
    · obtain rfl : k = len := by omega
      go_wp2_with fail
      rename World => wp
      refine (newP wp n).mono ?_
      rintro e w3 ⟨g2, rfl, hst2, bel3⟩
      have HST2 := Lib.hid hst2
      have HB3 := Lib.hid bel3
      clear hst2 bel3
      go_simp
      go_wp2_with fail
      go_loopw [10] (fun i wq => ∃ d : Nat, d ≤ k ∧ i = .int .i64 ((d : Int) - 1) ∧ St wp.heap.size wq g2 n (told n (dbl V k (k - d))) ∧ Below wp.heap.size wp wq) (fun i _ => (intOf i + 1).toNat)
      case atStart => exact ⟨k, by omega, by go_num, by simpa [told, dbl] using HST2.out, HB3.out⟩
      case round =>
        obtain ⟨d, hd, rfl, hst, bel⟩ := hrel
        have HT2 := Lib.hid hst
        have HB4 := Lib.hid bel
        clear hst bel
        have hRW := (HR1.out.below HB.out).below HB4.out
        have HRW := Lib.hid hRW
        clear hRW
        cases d with
        | succ d =>
          rw [show (((d + 1 : Nat) : Int) - 1) = (d : Int) by omega]
          obtain ⟨b, off, rfl, hcell⟩ := HRW.out (by omega)
          have c1 := hcell d (by omega)
          have HC := Lib.hid hcell
          clear hcell
          have hdk : d < k := by omega
          go_wp2_with fail
          refine (rep wp.heap.size _ g2 n (dbl V k (k - (d + 1))) (V d) (HS.out d) HT2.out HB4.out.size (by rw [length_dbl]; unfold maxLen; omega)).mono ?_
          rintro e w4 ⟨rfl, hst4, bel4⟩
          have HT4 := Lib.hid hst4
          have HB5 := Lib.hid (HB4.out.trans bel4)
          clear hst4 bel4
          have hR4 := (HR1.out.below HB.out).below HB5.out
          obtain ⟨b', off', e', hcell⟩ := hR4 (by omega)
          cases e'
          have c1 := hcell d (by omega)
          clear hcell hR4
          go_simp
          go_wp2_with fail
          refine (rep wp.heap.size _ g2 n (dbl V k (k - (d + 1)) ++ [V d]) (V d) (HS.out d) HT4.out HB5.out.size (by rw [List.length_append, length_dbl]; simp; unfold maxLen; omega)).mono ?_
          rintro e w5 ⟨rfl, hst5, bel5⟩
          have HT5 := Lib.hid hst5
          have HB6 := Lib.hid (HB5.out.trans bel5)
          clear hst5 bel5
          go_simp
          go_wp2_with fail
          go_roundw
          case rel =>
            refine ⟨d, by omega, by go_num, ?_, HB6.out⟩
            have := HT5.out
            rw [show k - d = (k - (d + 1)) + 1 by omega]
            unfold dbl
            rw [show k - 1 - (k - (d + 1)) = d by omega]
            exact this
          case measure => simp [intOf]
        | zero =>
          rw [show (((0 : Nat) : Int) - 1) = -1 by omega]
          have hTp := HT.out.below HB4.out
          have HTp := Lib.hid hTp
          clear hTp
          go_wp2_with fail
          refine (lowerAll w1.heap.size _ g n _ HTp.out).mono ?_
          rintro e w' ⟨⟨m1, rfl, hm1⟩, rfl⟩
          have HM1 := Lib.hid hm1
          clear hm1
          go_simp
          go_wp2_with fail
          refine (lowerAll wp.heap.size _ g2 n _ HT2.out).mono ?_
          rintro e w' ⟨⟨m2, rfl, hm2⟩, rfl⟩
          have HM2 := Lib.hid hm2
          clear hm2
          have hmem := mem_told n _ _ (mem_dbl_all V k)
          rw [Nat.sub_zero] at HM2
          have heq := fun (w : World) (r : Option Nat) => run_eql_map_nil (P := Try.prog) w 29 9 4 r Try.underlying29
          have hnn := isNone_congr HM1.out HM2.out hmem
          have hlen1 := fun ty => HM1.out.len ty
          have hlen2 := fun ty => HM2.out.len ty
          rw [← same_size HM1.out HM2.out hmem] at hlen2
          have HMEM := Lib.hid hmem
          clear hmem
          have hBel := HB1.out.trans (((HB.out.trans (HB4.out.mono HB.out.size))).mono HB1.out.size)
          have HBW := Lib.hid hBel
          clear hBel
          have hq : ∀ (x : ByteArray), x.size ≤ maxLen → ∃ y, (∀ nn, (Instr.lookup 29 (.map m1) (.string x) false).run Try.prog (wr.drewN nn) = .ok (.bool y) (wr.drewN nn)) ∧
              ∀ nn, (Instr.lookup 29 (.map m2) (.string x) false).run Try.prog (wr.drewN nn) = .ok (.bool y) (wr.drewN nn) := by
            intro x hx
            refine ⟨isIn x (told n (namesTo V k)), fun nn => (HM1.out.below (below_drewN (Below.refl _ _) nn)).look hx, fun nn => ?_⟩
            rw [← isIn_congr HMEM.out x]
            exact (HM2.out.below (below_drewN (Below.refl _ _) nn)).look hx
          have HQ := Lib.hid hq
          clear hq
          go_simp
          go_wp2_with fail
          go_loopw [13] (fun i wr' => ∃ j nq : Nat, j ≤ k ∧ i = .int .i64 j ∧ wr.drewN nq = wr') (fun i _ => k - (intOf i).toNat)
          case atStart => exact ⟨0, 0, by omega, rfl, rfl⟩
          case round =>
            obtain ⟨j, nj, hj, rfl, rfl⟩ := hrel
            clear hlen1 hlen2
            by_cases hjk : j < k
            · obtain ⟨b, off, rfl, hcell⟩ := HRW.out (by omega)
              have c1 := hcell j hjk
              clear hcell
              obtain ⟨y, q1, q2⟩ := HQ.out (V j) (HS.out j)
              go_wp2_with fail
              go_quiet (fail)
              go_wp2_with fail
              go_roundw
              case rel => exact ⟨j + 1, nj + nq, by omega, by go_num, by simp⟩
              case measure => simp [intOf]; omega
            · obtain rfl : j = k := by omega
              obtain ⟨y, q1, q2⟩ := HQ.out s HSS.out
              go_wp2_with fail
              go_ret
              exact ⟨by simp, below_drewN HBW.out _⟩
end Go.Proofs.Ytlnmobagimhcgaa.nm
