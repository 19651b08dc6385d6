/-
  EnsureNewlineAtEnd.
-/
import Derived.Test.YthcfdoaeefnemaaJc
namespace Go.Proofs.Ythcfdoaeefnemaa.jn
open Go.ChangeShapes Go.WideShapes Go.ChangeAt Go.RowKit Go.Deep Go.Lib
set_option linter.unusedVariables false
set_option linter.unusedSimpArgs false

def SizeM (w : World) (L : Nat → Nat) (len : Nat) (e : Ending) (w' : World) : Prop := (∃ c : Int, e = .returned (.int .i64 c) ∧ (c ≤ 1048576 → sumL L len ≤ 1048528)) ∧ w = w'
theorem SizeM.big {w : World} {L : Nat → Nat} {len : Nat} : SizeM w L len (.returned (.int .i64 1048577)) w := ⟨⟨1048577, rfl, fun h => absurd h (by decide)⟩, rfl⟩
set_option maxRecDepth 100000 in
set_option maxHeartbeats 1000000 in
theorem size17b (w : World) (a : Option Addr) (len cap : Nat) (A : Nat → Option Addr) (L C : Nat → Nat) (a1 : Option Addr) (len1 cap1 : Nat) (hl : len ≤ 65536) (hl1 : len1 ≤ 65536) (hc : Row w a len fun r => .slice (A r) (L r) (C r)) :
    Calls Try.prog 17 #[.slice a len cap, .slice a1 len1 cap1] w (SizeM w L len) := by
  have HC := Lib.hid hc
  clear hc
  go_enter Try.func17, Try.ntmps17
  go_wp2
  go_loopw [5, 6] (fun n i wr => ∃ (k c : Nat), k ≤ len ∧ i = .int .i64 k ∧ n = .int .i64 c ∧ sumL L k + 48 ≤ c ∧ c ≤ 1048576 ∧ w = wr) (fun n i _ => len - (intOf i).toNat)
  case atStart => exact ⟨0, 48 + len1, by omega, rfl, by go_num, by simp only [sumL]; omega, by omega, rfl⟩
  case round =>
    obtain ⟨k, c, hk, rfl, rfl, hs, hc, rfl⟩ := hrel
    by_cases hlt : k < len
    · obtain ⟨b, off, rfl, hcell⟩ := HC.out (by omega)
      have c1 := hcell k hlt
      clear hcell
      have HS := Lib.hid hs
      clear hs
      by_cases g1 : L k ≤ 1048576
      · by_cases g2 : c + L k + 24 ≤ 1048576
        · have t1 : decide ((1048576 : Int) < (L k : Int)) = false := by simp; omega
          have t2 : decide ((1048576 : Int) < (c : Int) + ((L k : Int) + 24)) = false := by simp; omega
          have G1 := Lib.hid g1
          have G2 := Lib.hid g2
          have gc : L k ≤ 1073741824 := by omega
          have gd : c ≤ 1073741824 := by omega
          clear g1 g2 hc
          go_wp2
          go_roundw
          case rel =>
            have hs := HS.out
            have g2 := G2.out
            exact ⟨k + 1, c + (L k + 24), by omega, by go_num, by go_num, by simp only [sumL]; omega, by omega, trivial⟩
          case measure => simp [intOf]; omega
        · have t2 : (1048576 : Int) < (c : Int) + ((L k : Int) + 24) := by omega
          clear g2
          go_wp2
          go_ret
          exact SizeM.big
      · have t1 : (1048576 : Int) < (L k : Int) := by omega
        clear g1
        go_wp2
        go_ret
        exact SizeM.big
    · obtain rfl : k = len := by omega
      go_wp2
      go_ret
      exact ⟨⟨_, rfl, fun h => by omega⟩, rfl⟩


/-- What EnsureNewlineAtEnd leaves: the text U. -/
def NlP (w : World) (D g : Nat) (gs gb : Option Nat) (Y : List BItem) (n : Nat) (U : List UInt8) (e : Ending) (w' : World) : Prop :=
  e = .returned (.tuple #[]) ∧ ∃ gs' S', S'.length ≤ n + 1 ∧ Jn w' D g gs' gb S' Y U ∧ (gs' = gs ∨ ∃ k, gs' = some k ∧ w.heap.size ≤ k) ∧ Touch (fun j => j = g ∨ gs = some j) w w'
theorem nl_no (w : World) (D g : Nat) (gs gb : Option Nat) (S : List (ByteArray × Nat)) (Y : List BItem) (T : List UInt8) (h : Jn w D g gs gb S Y T) (hT : T.length ≤ 1048576) (hn : T = [] ∨ lastOf T 0 = 10) :
    Calls Try.prog 22 #[.pointer (some ⟨g, 0, none⟩)] w (NlP w D g gs gb Y S.length T) := by
  have HJ := Lib.hid h
  obtain ⟨sv, bv, a1, _⟩ := h
  obtain ⟨c0, c1, c2, c3⟩ := a1.cells
  clear a1 c0 c1
  have fin : NlP w D g gs gb Y S.length T (.returned (.tuple #[])) w := ⟨rfl, gs, S, by omega, HJ.out, .inl rfl, Touch.refl _ _⟩
  have FIN := Lib.hid fin
  clear fin
  by_cases h0 : T.length = 0
  · obtain rfl : T = [] := List.eq_nil_of_length_eq_zero h0
    clear h0 hn
    simp only [List.length_nil] at c2
    rw [show lastOf [] 0 = 0 from rfl] at c3
    rw [show ((0 : Nat) : Int) = 0 from rfl] at c2
    go_enter Try.func22, Try.ntmps22
    go_wp2
    go_end0
    exact FIN.out
  · have hl : lastOf T 0 = 10 := by
      rcases hn with rfl | h
      · exact absurd rfl h0
      · exact h
    rw [hl] at c3
    have hTp : 0 < T.length := by omega
    have hTq : (0 : Int) < (T.length : Int) := by omega
    clear hl hn h0
    go_enter Try.func22, Try.ntmps22
    go_wp2
    go_end0
    exact FIN.out
theorem nl_yes (w : World) (D g : Nat) (gs gb : Option Nat) (S : List (ByteArray × Nat)) (Y : List BItem) (T : List UInt8) (h : Jn w D g gs gb S Y T) (hT : T.length ≤ 1048576) (hS : S.length ≤ 1048576) (h0 : 0 < T.length) (hn : lastOf T 0 ≠ 10) :
    Calls Try.prog 22 #[.pointer (some ⟨g, 0, none⟩)] w (NlP w D g gs gb Y S.length (T ++ [10])) := by
  have HJ := Lib.hid h
  obtain ⟨sv, bv, a1, _⟩ := h
  obtain ⟨c0, c1, c2, c3⟩ := a1.cells
  clear a1 c0 c1
  have t1 : decide ((0 : Int) < (T.length : Int)) = true := by simp; omega
  have t2 : (lastOf T 0 == 10) = false := beq_eq_false_iff_ne.2 hn
  have t3 : (lastOf T 0 != 10) = true := bne_iff_ne.2 hn
  clear hn
  generalize lastOf T 0 = x at *
  go_enter Try.func22, Try.ntmps22
  go_wp2_with fail
  refine (addS w D g gs gb S Y T _ HJ.out hT (by simp [ByteArray.size]) hS).mono ?_
  rintro e w3 ⟨rfl, gs', hJ', hgs, hT'⟩
  have FIN : Hid (NlP w D g gs gb Y S.length (T ++ [10]) (.returned (.tuple #[])) w3) := Lib.hid ⟨rfl, gs', _, by simp, hJ', hgs, hT'⟩
  clear hJ' hgs hT'
  go_simp
  go_wp2_with fail
  go_end0
  exact FIN.out
end Go.Proofs.Ythcfdoaeefnemaa.jn
