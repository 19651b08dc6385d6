/-
  The statement on short words walked.
-/
import Derived.Test.YthmakfnceliciaaVc
namespace Go.Proofs.Ythmakfnceliciaa.ty
open Go.ChangeShapes Go.WideShapes Go.ChangeAt Go.RowKit Go.Deep Go.Proofs.Ythmakfnceliciaa.mk Go.Proofs.Ythmakfnceliciaa.u8
set_option linter.unusedVariables false
set_option linter.unusedSimpArgs false

def AnyP (P : Prop) (w : World) (e : Ending) (w' : World) : Prop := ∃ v, e = .returned (.bool v) ∧ (v = true → P) ∧ w = w'
set_option maxHeartbeats 4000000 in
theorem bytes5 (w : World) (a : Option Addr) (n cap : Nat) (V : Nat → ByteArray) (s : ByteArray) (hn : n ≤ maxLen) (hs : s.size ≤ maxLen) (h : Row w a n (fun i => .string (V i))) (hV : ∀ i, (V i).size ≤ maxLen) : Calls Try.prog 5 #[.slice a n cap, .string s] w (AnyP (∀ i, i < n → (V i).size ≤ 1048576) w) := by
  unfold maxLen at hn hs hV
  have HU := Lib.hid h
  have HV := Lib.hid hV
  clear h hV
  by_cases h1 : 1048576 < n
  · go_enter Try.func5, Try.ntmps5
    go_wp2_with fail
    go_ret
    exact ⟨false, rfl, nofun, rfl⟩
  have h1' : n ≤ 1048576 := by omega
  go_enter Try.func5, Try.ntmps5
  go_wp2_with fail
  go_loop [5, 6] (fun x i => ∃ k t : Nat, k ≤ n ∧ i = .int .i64 k ∧ x = .int .i64 t ∧ t ≤ 1048576 ∧ ∀ j, j < k → (V j).size ≤ 1048576) (fun _ i => n - (intOf i).toNat)
  case atStart => exact ⟨0, n, by omega, rfl, by simp, by omega, fun j hj => by omega⟩
  case round =>
    obtain ⟨k, t, hk, rfl, rfl, ht, hall⟩ := hrel
    have HALL := Lib.hid hall
    clear hall
    by_cases hlt : k < n
    · obtain ⟨b, off, rfl, hcell⟩ := HU.out (by omega)
      have c1 := hcell k hlt
      have hv := HV.out k
      clear hcell
      by_cases h2 : 1048576 < (V k).size
      · go_wp2_with fail
        go_ret
        exact ⟨false, rfl, nofun, rfl⟩
      by_cases h3 : 1048576 < t + (V k).size
      · go_wp2_with fail
        go_ret
        exact ⟨false, rfl, nofun, rfl⟩
      go_wp2_with fail
      go_round
      case rel => exact ⟨k + 1, t + (V k).size, by omega, by go_num, by go_num, by omega, fun j hj => by
        by_cases e : j = k
        · subst e; omega
        · exact HALL.out j (by omega)⟩
      case measure => simp [intOf]; omega
    · obtain rfl : k = n := by omega
      by_cases h2 : 1048576 < s.size
      · go_wp2_with fail
        go_ret
        exact ⟨false, rfl, nofun, rfl⟩
      by_cases h3 : 1048576 < t + s.size
      · go_wp2_with fail
        go_ret
        exact ⟨false, rfl, nofun, rfl⟩
      go_wp2_with fail
      go_ret
      exact ⟨true, rfl, fun _ => HALL.out, rfl⟩
set_option maxHeartbeats 4000000 in
theorem size6 (w : World) (a : Option Addr) (n cap : Nat) (V : Nat → ByteArray) (s : ByteArray) (hn : n ≤ maxLen) (hs : s.size ≤ maxLen) (h : Row w a n (fun i => .string (V i))) (hV : ∀ i, i < n → (V i).size ≤ 1048576) : Calls Try.prog 6 #[.slice a n cap, .string s] w (AnyP (n ≤ 65536 ∧ s.size ≤ 4096) w) := by
  unfold maxLen at hn hs
  have HU := Lib.hid h
  have HV := Lib.hid hV
  clear h hV
  by_cases h1 : 65536 < n
  · go_enter Try.func6, Try.ntmps6
    go_wp2_with fail
    go_ret
    exact ⟨false, rfl, nofun, rfl⟩
  by_cases h1' : 4096 < s.size
  · go_enter Try.func6, Try.ntmps6
    go_wp2_with fail
    go_ret
    exact ⟨false, rfl, nofun, rfl⟩
  have HP : Hid (n ≤ 65536 ∧ s.size ≤ 4096) := Lib.hid ⟨by omega, by omega⟩
  have h2 : n ≤ 65536 := by omega
  have h2' : s.size ≤ 4096 := by omega
  go_enter Try.func6, Try.ntmps6
  go_wp2_with fail
  go_loop [5, 6] (fun x i => ∃ k t : Nat, k ≤ n ∧ i = .int .i64 k ∧ x = .int .i64 t ∧ t ≤ 1048576) (fun _ i => n - (intOf i).toNat)
  case atStart => exact ⟨0, 8 * n + s.size, by omega, rfl, by go_num, by omega⟩
  case round =>
    obtain ⟨k, t, hk, rfl, rfl, ht⟩ := hrel
    by_cases hlt : k < n
    · obtain ⟨b, off, rfl, hcell⟩ := HU.out (by omega)
      have c1 := hcell k hlt
      have hv := HV.out k hlt
      clear hcell
      by_cases h3 : 1048576 < t + (V k).size
      · go_wp2_with fail
        go_ret
        exact ⟨false, rfl, nofun, rfl⟩
      go_wp2_with fail
      go_round
      case rel => exact ⟨k + 1, t + (V k).size, by omega, by go_num, by go_num, by omega⟩
      case measure => simp [intOf]; omega
    · obtain rfl : k = n := by omega
      go_wp2_with fail
      go_ret
      exact ⟨true, rfl, by first | exact fun _ => HP.out | exact fun _ => trivial, rfl⟩
set_option maxRecDepth 100000 in
set_option maxHeartbeats 4000000 in
theorem law27 (w : World) (a : Option Addr) (n cap : Nat) (V : Nat → ByteArray) (s : ByteArray) (hA : IsStrs w a n cap V) (hs : s.size ≤ maxLen) :
    Calls Try.prog 3 #[.slice a n cap, .string s] w fun e w' => e = .returned (.bool true) ∧ Below w.heap.size w w' := by
  have HA := Lib.hid hA
  have hn := hA.2.1
  have H5 := Lib.hid (bytes5 w a n cap V s hn hs hA.2.2.1 hA.2.2.2)
  clear hA
  go_enter Try.func3, Try.ntmps3
  go_wp2_with fail
  refine H5.out.mono ?_
  rintro e w' ⟨v, rfl, hp, rfl⟩
  cases v
  · go_wp2_with fail
    go_ret
    exact ⟨rfl, Below.refl _ _⟩
  have H6 := Lib.hid (size6 w a n cap V s hn hs HA.out.2.2.1 (hp rfl))
  clear hp hn
  go_wp2_with fail
  refine H6.out.mono ?_
  rintro e w' ⟨v, rfl, hp, rfl⟩
  cases v
  · go_wp2_with fail
    go_ret
    exact ⟨rfl, Below.refl _ _⟩
  obtain ⟨hn, hs4⟩ := hp rfl
  clear hp hs
  go_wp2_with fail
  go_loop [5] (fun i => ∃ k : Nat, k ≤ n ∧ i = .int .i64 k ∧ ∀ j, j < k → (V j).size ≤ 3) (fun i => n - (intOf i).toNat)
  case atStart => exact ⟨0, by omega, rfl, fun j hj => by omega⟩
  case round =>
    obtain ⟨k, hk, rfl, hall⟩ := hrel
    have HALL := Lib.hid hall
    clear hall
    by_cases hlt : k < n
    · obtain ⟨b, off, rfl, hcell⟩ := HA.out.2.2.1 (by omega)
      have c1 := hcell k hlt
      have hv := HA.out.2.2.2 k
      unfold maxLen at hv
      clear hcell
      by_cases h3 : 3 < (V k).size
      · go_wp2_with fail
        go_ret
        exact ⟨rfl, Below.refl _ _⟩
      · go_wp2_with fail
        go_round
        case rel => exact ⟨k + 1, by omega, by go_num, fun j hj => by
          by_cases e : j = k
          · subst e; omega
          · exact HALL.out j (by omega)⟩
        case measure => simp [intOf]; omega
    · obtain rfl : k = n := by omega
      go_wp2_with fail
      refine (valid7 w s (by omega)).mono ?_
      rintro e w' ⟨v, rfl, hv, rfl⟩
      cases v
      · go_wp2_with fail
        go_ret
        exact ⟨rfl, Below.refl _ _⟩
      have HV := Lib.hid (hv rfl)
      clear hv
      go_wp2_with fail
      refine (cloneSR w a k cap V (by omega) HA.out.1 HA.out.2.2.1).mono ?_
      rintro e w1 ⟨a1, rfl, hr1, hb1⟩
      have R1 := Lib.hid hr1
      have B1 := Lib.hid hb1
      clear hr1 hb1
      go_wp2_with fail
      refine (make9 w1 a1 k k V hn R1.out HALL.out).mono ?_
      rintro e w2 ⟨B, rfl, hm, hb2⟩
      have M2 := Lib.hid hm
      have B2 := Lib.hid (B1.out.trans (hb2.mono B1.out.size))
      clear hm hb2
      go_simp
      go_wp2_with fail
      refine (no10 _ s B hs4 (M2.out.alloc _) HV.out).mono ?_
      rintro e w3 ⟨rfl, hb3⟩
      have B3 := Lib.hid ((B2.out.alloc B2.out.size (.cells #[.map (some B)] 28)).trans (hb3.mono (by have := B2.out.size; simp; omega)))
      clear hb3
      have he : (ByteArray.empty == ByteArray.empty) = true := by decide
      go_simp
      go_wp2_with fail
      go_ret
      exact ⟨rfl, B3.out⟩
end Go.Proofs.Ythmakfnceliciaa.ty
