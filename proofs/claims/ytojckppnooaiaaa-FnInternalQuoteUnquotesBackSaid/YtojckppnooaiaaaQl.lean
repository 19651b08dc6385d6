/-
  zzHexVal, zzHex4, zzAppendCP walked.
-/
import Derived.Test.YtojckppnooaiaaaQi
import Derived.Test.YtojckppnooaiaaaQk
namespace Go.Proofs.Ytojckppnooaiaaa.qw
open Go.ChangeShapes Go.WideShapes Go.ChangeAt Go.RowKit Go.Deep Go.Proofs.Ytojckppnooaiaaa.qp
set_option linter.unusedVariables false
set_option linter.unusedSimpArgs false
set_option maxRecDepth 100000 in
theorem hv21 (w : World) (d : Nat) (hd : d < 16) : Calls Try.prog 21 #[.int .u8 (hx d)] w (fun e w' => e = .returned (.int .i64 d) ∧ w = w') := by
  rcases (by omega : d = 0 ∨ d = 1 ∨ d = 2 ∨ d = 3 ∨ d = 4 ∨ d = 5 ∨ d = 6 ∨ d = 7 ∨ d = 8 ∨ d = 9 ∨ d = 10 ∨ d = 11 ∨ d = 12 ∨ d = 13 ∨ d = 14 ∨ d = 15) with rfl | rfl | rfl | rfl | rfl | rfl | rfl | rfl | rfl | rfl | rfl | rfl | rfl | rfl | rfl | rfl
  · as_aux_lemma =>
    rw [show hx 0 = 48 from by decide]
    go_enter Try.func21, Try.ntmps21
    go_wp2_with fail
    go_ret
    exact ⟨rfl, rfl⟩
  · as_aux_lemma =>
    rw [show hx 1 = 49 from by decide]
    go_enter Try.func21, Try.ntmps21
    go_wp2_with fail
    go_ret
    exact ⟨rfl, rfl⟩
  · as_aux_lemma =>
    rw [show hx 2 = 50 from by decide]
    go_enter Try.func21, Try.ntmps21
    go_wp2_with fail
    go_ret
    exact ⟨rfl, rfl⟩
  · as_aux_lemma =>
    rw [show hx 3 = 51 from by decide]
    go_enter Try.func21, Try.ntmps21
    go_wp2_with fail
    go_ret
    exact ⟨rfl, rfl⟩
  · as_aux_lemma =>
    rw [show hx 4 = 52 from by decide]
    go_enter Try.func21, Try.ntmps21
    go_wp2_with fail
    go_ret
    exact ⟨rfl, rfl⟩
  · as_aux_lemma =>
    rw [show hx 5 = 53 from by decide]
    go_enter Try.func21, Try.ntmps21
    go_wp2_with fail
    go_ret
    exact ⟨rfl, rfl⟩
  · as_aux_lemma =>
    rw [show hx 6 = 54 from by decide]
    go_enter Try.func21, Try.ntmps21
    go_wp2_with fail
    go_ret
    exact ⟨rfl, rfl⟩
  · as_aux_lemma =>
    rw [show hx 7 = 55 from by decide]
    go_enter Try.func21, Try.ntmps21
    go_wp2_with fail
    go_ret
    exact ⟨rfl, rfl⟩
  · as_aux_lemma =>
    rw [show hx 8 = 56 from by decide]
    go_enter Try.func21, Try.ntmps21
    go_wp2_with fail
    go_ret
    exact ⟨rfl, rfl⟩
  · as_aux_lemma =>
    rw [show hx 9 = 57 from by decide]
    go_enter Try.func21, Try.ntmps21
    go_wp2_with fail
    go_ret
    exact ⟨rfl, rfl⟩
  · as_aux_lemma =>
    rw [show hx 10 = 65 from by decide]
    go_enter Try.func21, Try.ntmps21
    go_wp2_with fail
    go_ret
    exact ⟨rfl, rfl⟩
  · as_aux_lemma =>
    rw [show hx 11 = 66 from by decide]
    go_enter Try.func21, Try.ntmps21
    go_wp2_with fail
    go_ret
    exact ⟨rfl, rfl⟩
  · as_aux_lemma =>
    rw [show hx 12 = 67 from by decide]
    go_enter Try.func21, Try.ntmps21
    go_wp2_with fail
    go_ret
    exact ⟨rfl, rfl⟩
  · as_aux_lemma =>
    rw [show hx 13 = 68 from by decide]
    go_enter Try.func21, Try.ntmps21
    go_wp2_with fail
    go_ret
    exact ⟨rfl, rfl⟩
  · as_aux_lemma =>
    rw [show hx 14 = 69 from by decide]
    go_enter Try.func21, Try.ntmps21
    go_wp2_with fail
    go_ret
    exact ⟨rfl, rfl⟩
  · as_aux_lemma =>
    rw [show hx 15 = 70 from by decide]
    go_enter Try.func21, Try.ntmps21
    go_wp2_with fail
    go_ret
    exact ⟨rfl, rfl⟩
/-- The value of the first k digits. -/
def pv (D : Nat → Nat) : Nat → Nat
  | 0 => 0
  | k + 1 => pv D k * 16 + D k
theorem pv_lt {D : Nat → Nat} (hD : ∀ k, k < 4 → D k < 16) {k : Nat} (h : k < 4) : pv D k < 4096 := by
  have h0 := hD 0 (by omega)
  have h1 := hD 1 (by omega)
  have h2 := hD 2 (by omega)
  have : k = 0 ∨ k = 1 ∨ k = 2 ∨ k = 3 := by omega
  rcases this with rfl | rfl | rfl | rfl <;> simp only [pv] <;> omega
/-- Four digits stand at i. -/
def Dg (Y : List Int) (i : Nat) (D : Nat → Nat) : Prop := i + 4 ≤ Y.length ∧ ∀ k, k < 4 → D k < 16 ∧ Y.getD (i + k) 0 = hx (D k)
set_option maxRecDepth 100000 in
set_option maxHeartbeats 4000000 in
theorem hex15 (w : World) (v : Value) (Y : List Int) (i : Nat) (D : Nat → Nat) (hl : Y.length ≤ 20000000) (hr : Rd w v Y) (hd : Dg Y i D) :
    Calls Try.prog 15 #[v, .int .i64 i] w (fun e w' => e = .returned (.tuple #[.int .i64 (pv D 4), .bool true]) ∧ w = w') := by
  obtain ⟨a, ca, rfl, hr⟩ := hr
  obtain ⟨hi, hd⟩ := hd
  obtain ⟨b, off, rfl, hc⟩ := hr (by omega)
  have HD := Lib.hid hd
  have HC := Lib.hid hc
  have d1 : decide ((i : Int) < 0) = false := by simp
  have d2 : decide ((Y.length : Int) < (i : Int) + 4) = false := by simp; omega
  have i2 : i < 20000000 := by omega
  clear hd hc hr
  go_enter Try.func15, Try.ntmps15
  go_wp2_with fail
  go_loopw [6, 7] (fun v6 v7 wr => ∃ k : Nat, k ≤ 4 ∧ v7 = .int .i64 k ∧ v6 = .int .i64 (pv D k) ∧ w = wr) (fun _ v _ => 4 - (intOf v).toNat)
  case atStart => exact ⟨0, by omega, rfl, rfl, rfl⟩
  case round =>
    obtain ⟨k, hk, rfl, rfl, rfl⟩ := hrel
    by_cases hlt : k < 4
    · obtain ⟨hD, hY⟩ := HD.out k hlt
      have hcl := HC.out (i + k) (by omega)
      rw [hY] at hcl
      have hp := pv_lt (fun k h => (HD.out k h).1) hlt
      obtain ⟨p, hpe⟩ : ∃ p, pv D k = p := ⟨_, rfl⟩
      obtain ⟨d, hde⟩ : ∃ d, D k = d := ⟨_, rfl⟩
      have hp2 : pv D (k + 1) = p * 16 + d := by rw [← hpe, ← hde]; rfl
      rw [hpe] at hp ⊢
      rw [hde] at hD hcl
      clear hpe hde hY
      go_wp2_with (go_at_call 21; refine (hv21 _ d hD).mono ?_; rintro _ _ ⟨rfl, rfl⟩)
      go_roundw
      case rel => exact ⟨k + 1, by omega, by go_num, by rw [hp2]; go_num, by first | trivial | rfl⟩
      case measure => simp [intOf]; omega
    · obtain rfl : k = 4 := by omega
      go_wp2_with fail
      go_ret2
      exact ⟨rfl, rfl⟩
end Go.Proofs.Ytojckppnooaiaaa.qw
