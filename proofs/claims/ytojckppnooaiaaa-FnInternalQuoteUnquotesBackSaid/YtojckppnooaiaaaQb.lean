/-
  zzDecode walked.
-/
import Derived.Test.YtojckppnooaiaaaQa
import Derived.Test.YtojckppnooaiaaaProg
import Derived.ProofKit
import Derived.Below
import Derived.ChangeOld
import Derived.OpenShut
import Derived.Lib.Hide
import Derived.WalkLawsBesides
import Derived.Deep.OwnRows
import Derived.Laws.Rows
import Derived.WalkSpells
import Derived.WalkSmall
import Derived.Outline
import Derived.BigQuiet
import Derived.Deep.QuietTactic
import Derived.Deep.DeepCutAuto
import Derived.Deep.CutBlock
import Derived.Laws.RangeString
import Derived.Laws.RangeAny
import Derived.Lib.OthersKept
namespace Go.Proofs.Ytojckppnooaiaaa.qw
open Go.ChangeShapes Go.WideShapes Go.ChangeAt Go.RowKit Go.Deep Go.Proofs.Ytojckppnooaiaaa.qp
set_option linter.unusedVariables false
set_option linter.unusedSimpArgs false
theorem wraps_i64 (n : Int) (h₀ : 0 ≤ n) (h₁ : n < 2 ^ 62) : IntKind.i64.wrap n = n := by rw [IntKind.wrap_i64]; omega
theorem m31 (x : Nat) (h : x < 256) : bits .and .i64 (x : Int) 31 = ((x % 32 : Nat) : Int) := by
  have := bits_mask .i64 62 (by decide) wraps_i64 5 (by decide) x (by omega) (by omega); simpa using this
theorem m15 (x : Nat) (h : x < 256) : bits .and .i64 (x : Int) 15 = ((x % 16 : Nat) : Int) := by
  have := bits_mask .i64 62 (by decide) wraps_i64 4 (by decide) x (by omega) (by omega); simpa using this
theorem m7 (x : Nat) (h : x < 256) : bits .and .i64 (x : Int) 7 = ((x % 8 : Nat) : Int) := by
  have := bits_mask .i64 62 (by decide) wraps_i64 3 (by decide) x (by omega) (by omega); simpa using this
theorem m63 (x : Nat) (h : x < 256) : bits .and .i64 (x : Int) 63 = ((x % 64 : Nat) : Int) := by
  have := bits_mask .i64 62 (by decide) wraps_i64 6 (by decide) x (by omega) (by omega); simpa using this
theorem m192 : ∀ b, b < 256 → bits .and .i64 ((b : Nat) : Int) 192 = ((b / 64 * 64 : Nat) : Int) := by decide +kernel
theorem m192_no {b : Nat} (hb : b < 256) (h : 128 ≤ b ∧ b ≤ 191) : (bits .and .i64 (b : Int) 192 != 128) = false := by
  rw [m192 b hb, show b / 64 * 64 = 128 by omega]; decide
theorem m192_yes {b : Nat} (hb : b < 256) (h : ¬ (128 ≤ b ∧ b ≤ 191)) : (bits .and .i64 (b : Int) 192 != 128) = true := by
  rw [m192 b hb]
  have : b / 64 * 64 ≠ 128 := by omega
  simp only [bne_iff_ne, ne_eq]
  omega
theorem j64 (x y : Nat) (hx : x < 1000000) (hy : y < 64) : bits .or .i64 ((x : Int) * 64) (y : Int) = ((x * 64 + y : Nat) : Int) := by
  have := bits_join .i64 62 (by decide) wraps_i64 6 ((x : Int) * 64) (y : Int) (by omega) (by omega) (by omega) (by omega) (by omega) (by omega)
  rw [this]; omega
/-- What the head byte tells. -/
def Hd (b nd cp lo hi : Nat) : Prop :=
  (194 ≤ b ∧ b ≤ 223 ∧ nd = 1 ∧ cp = b % 32 ∧ lo = 128 ∧ hi = 2047) ∨ (224 ≤ b ∧ b ≤ 239 ∧ nd = 2 ∧ cp = b % 16 ∧ lo = 2048 ∧ hi = 65535) ∨ (240 ≤ b ∧ b ≤ 244 ∧ nd = 3 ∧ cp = b % 8 ∧ lo = 65536 ∧ hi = 1114111)
theorem Hd.n {b nd cp lo hi : Nat} (h : Hd b nd cp lo hi) : 1 ≤ nd ∧ nd ≤ 3 ∧ cp < 32 ∧ lo < 100000 ∧ hi < 2000000 := by unfold Hd at h; omega
/-- The code point after k further bytes. -/
def acc (s : ByteArray) (i m : Nat) : Nat → Nat
  | 0 => m
  | k + 1 => acc s i m k * 64 + bt s (i + (k + 1)) % 64
theorem acc_lt (s : ByteArray) (i m : Nat) (hm : m < 32) : ∀ k, k ≤ 2 → acc s i m k < 1000000 := fun k hk => by
  have : k = 0 ∨ k = 1 ∨ k = 2 := by omega
  rcases this with rfl | rfl | rfl
  · simp only [acc]; omega
  · simp only [acc]; omega
  · simp only [acc]; omega
theorem cp_of {s : ByteArray} {i b nd m lo hi : Nat} (hb : bt s i = b) (hd : Hd b nd m lo hi) (hs : i + nd < s.size) (hk : ∀ k, 1 ≤ k → k ≤ nd → 128 ≤ bt s (i + k) ∧ bt s (i + k) ≤ 191)
    (h1 : lo ≤ acc s i m nd) (h2 : acc s i m nd ≤ hi) : Cp s i (acc s i m nd) (nd + 1) := by
  have hn := hd.n
  have hnd : nd = 1 ∨ nd = 2 ∨ nd = 3 := by omega
  unfold Hd at hd
  rcases hnd with rfl | rfl | rfl
  · have := hk 1 (by omega) (by omega)
    simp only [acc, Nat.zero_add] at h1 h2 ⊢
    unfold Cp; right; left
    refine ⟨rfl, by omega, by omega, by omega, by omega, by omega⟩
  · have k1 := hk 1 (by omega) (by omega)
    have k2 := hk 2 (by omega) (by omega)
    simp only [acc, Nat.zero_add, show 1 + 1 = 2 from rfl] at h1 h2 ⊢
    unfold Cp; right; right; left
    refine ⟨rfl, by omega, by omega, by omega, by omega, by omega, by omega⟩
  · have k1 := hk 1 (by omega) (by omega)
    have k2 := hk 2 (by omega) (by omega)
    have k3 := hk 3 (by omega) (by omega)
    simp only [acc, Nat.zero_add, show 1 + 1 = 2 from rfl, show 2 + 1 = 3 from rfl] at h1 h2 ⊢
    unfold Cp; right; right; right
    refine ⟨rfl, by omega, by omega, by omega, by omega, by omega, by omega, by omega⟩
def NoCp (s : ByteArray) (i : Nat) : Prop := ∀ c n, ¬ Cp s i c n
theorem no_head {s : ByteArray} {i b : Nat} (hb : bt s i = b) (h : 128 ≤ b) (h2 : b < 194 ∨ 244 < b) : NoCp s i := fun c n hc => by unfold Cp at hc; omega
theorem no_len {s : ByteArray} {i b nd m lo hi : Nat} (hb : bt s i = b) (hd : Hd b nd m lo hi) (hs : ¬ i + nd < s.size) : NoCp s i := fun c n hc => by unfold Cp at hc; unfold Hd at hd; omega
theorem no_tail {s : ByteArray} {i b nd m lo hi k : Nat} (hb : bt s i = b) (hd : Hd b nd m lo hi) (h1 : 1 ≤ k) (h2 : k ≤ nd) (hk : ¬ (128 ≤ bt s (i + k) ∧ bt s (i + k) ≤ 191)) : NoCp s i := fun c n hc => by
  have hn := hd.n
  have hk' : k = 1 ∨ k = 2 ∨ k = 3 := by omega
  unfold Cp at hc; unfold Hd at hd
  rcases hk' with rfl | rfl | rfl
  all_goals omega
theorem no_range {s : ByteArray} {i b nd m lo hi : Nat} (hb : bt s i = b) (hd : Hd b nd m lo hi) (h1 : ¬ (lo ≤ acc s i m nd ∧ acc s i m nd ≤ hi)) : NoCp s i := fun c n hc => by
  have hn := hd.n
  have hnd : nd = 1 ∨ nd = 2 ∨ nd = 3 := by omega
  unfold Cp at hc; unfold Hd at hd
  rcases hnd with rfl | rfl | rfl
  all_goals simp only [acc, Nat.zero_add, show 1 + 1 = 2 from rfl, show 2 + 1 = 3 from rfl] at h1
  all_goals omega
def DecP (s : ByteArray) (i : Nat) (w : World) (e : Ending) (w' : World) : Prop := ∃ (c n : Nat) (b : Bool), e = .returned (.tuple #[.int .i64 c, .int .i64 n, .bool b]) ∧ (b = true → Cp s i c n) ∧ (b = false → NoCp s i) ∧ w = w'
def CutD (b : Nat) (v9 v10 v11 v12 : Value) : Prop := ∃ nd cp lo hi : Nat, v9 = .int .i64 nd ∧ v10 = .int .i64 cp ∧ v11 = .int .i64 lo ∧ v12 = .int .i64 hi ∧ Hd b nd cp lo hi
set_option maxRecDepth 100000 in
set_option maxHeartbeats 8000000 in
theorem dec12 (w : World) (s : ByteArray) (i : Nat) (hs : s.size ≤ 1048576) (hi : i < s.size) : Calls Try.prog 12 #[.string s, .int .i64 i] w (DecP s i w) := by
  have hbt := bt_at s i hi
  have HBE : Hid (∃ b, bt s i = b) := Lib.hid ⟨_, rfl⟩
  have hb2 := bt_lt s i
  obtain ⟨b, hb⟩ := HBE.out
  have HB := Lib.hid hb
  rw [hb] at hbt hb2
  clear hb HBE
  have p1 := m31 b hb2
  have p2 := m15 b hb2
  have p3 := m7 b hb2
  obtain ⟨m1, hm1⟩ : ∃ m1, b % 32 = m1 := ⟨_, rfl⟩
  obtain ⟨m2, hm2⟩ : ∃ m2, b % 16 = m2 := ⟨_, rfl⟩
  obtain ⟨m3, hm3⟩ : ∃ m3, b % 8 = m3 := ⟨_, rfl⟩
  rw [hm1] at p1
  rw [hm2] at p2
  rw [hm3] at p3
  have HM := Lib.hid (⟨hm1, hm2, hm3⟩ : b % 32 = m1 ∧ b % 16 = m2 ∧ b % 8 = m3)
  clear hm1 hm2 hm3
  go_enter Try.func12, Try.ntmps12
  by_cases hA : b < 128
  · go_wp2_with fail
    go_ret3
    exact ⟨b, 1, true, rfl, fun _ => .inl ⟨rfl, by omega, hA, HB.out⟩, nofun, rfl⟩
  by_cases hB : b < 194
  · go_wp2_with fail
    go_ret3
    exact ⟨0, 0, false, rfl, nofun, fun _ => no_head HB.out (by omega) (.inl hB), rfl⟩
  by_cases hC : 244 < b
  · go_wp2_with fail
    go_ret3
    exact ⟨0, 0, false, rfl, nofun, fun _ => no_head HB.out (by omega) (.inr hC), rfl⟩
  go_upto_if 36 with (fail)
  go_cut [9, 10, 11, 12] (fun v9 v10 v11 v12 wx => CutD b v9 v10 v11 v12 ∧ w = wx)
  case first =>
    by_cases c1 : b ≤ 223
    · go_wp2_with fail
      go_meet
      exact ⟨⟨1, m1, 128, 2047, rfl, rfl, rfl, rfl, by have := HM.out; unfold Hd; omega⟩, rfl⟩
    by_cases c2 : b ≤ 239
    · go_wp2_with fail
      go_meet
      exact ⟨⟨2, m2, 2048, 65535, rfl, rfl, rfl, rfl, by have := HM.out; unfold Hd; omega⟩, rfl⟩
    go_wp2_with fail
    go_meet
    exact ⟨⟨3, m3, 65536, 1114111, rfl, rfl, rfl, rfl, by have := HM.out; unfold Hd; omega⟩, rfl⟩
  case rest =>
    obtain ⟨⟨nd, m, lo, hi', rfl, rfl, rfl, rfl, hT⟩, rfl⟩ := hcut
    have hn := hT.n
    obtain ⟨n1, n2, n3, n4, n5⟩ := hn
    have HT := Lib.hid hT
    clear hT
    by_cases hin : i + nd < s.size
    · go_wp2_with fail
      go_loop [10, 13] (fun v w => ∃ k : Nat, v = .int .i64 (acc s i m k : Nat) ∧ w = .int .i64 (k + 1 : Nat) ∧ k ≤ nd ∧ ∀ j, 1 ≤ j → j ≤ k → 128 ≤ bt s (i + j) ∧ bt s (i + j) ≤ 191) (fun _ v => nd + 1 - (intOf v).toNat)
      case atStart => exact ⟨0, rfl, rfl, by omega, fun j h1 h2 => by omega⟩
      case round =>
        obtain ⟨k, rfl, rfl, hkn, hall⟩ := hrel
        have HALL := Lib.hid hall
        clear hall hbt
        by_cases hk : k < nd
        · have hlt : i + (k + 1) < s.size := by omega
          have hbk := bt_at s (i + (k + 1)) hlt
          have hbk1 := bt_lt s (i + (k + 1))
          have q1 := m63 (bt s (i + (k + 1))) hbk1
          have hacc : acc s i m (k + 1) = acc s i m k * 64 + bt s (i + (k + 1)) % 64 := rfl
          have hal := acc_lt s i m n3 k (by omega)
          have q2 := j64 (acc s i m k) (bt s (i + (k + 1)) % 64) hal (by omega)
          rw [← hacc] at q2
          obtain ⟨x, hx⟩ : ∃ x, acc s i m (k + 1) = x := ⟨_, rfl⟩
          obtain ⟨y, hy⟩ : ∃ y, bt s (i + (k + 1)) % 64 = y := ⟨_, rfl⟩
          obtain ⟨z, hz⟩ : ∃ z, acc s i m k = z := ⟨_, rfl⟩
          rw [hx, hy, hz] at q2
          rw [hy] at q1
          rw [hz] at hal
          have HX := Lib.hid hx
          have hx2 : x < 64000000 := by rw [← hx, hacc]; omega
          rw [hz]
          clear hacc hx hy hz
          by_cases hc : 128 ≤ bt s (i + (k + 1)) ∧ bt s (i + (k + 1)) ≤ 191
          · have ha := m192_no hbk1 hc
            have HC := Lib.hid hc
            clear hc
            go_wp2_with fail
            go_round
            case rel => exact ⟨k + 1, by rw [HX.out], by go_num, by omega, fun j h1 h2 => by
              by_cases e : j = k + 1
              · subst e; exact HC.out
              · exact HALL.out j h1 (by omega)⟩
            case measure => simp [intOf]; omega
          · have ha := m192_yes hbk1 hc
            have HN := Lib.hid (no_tail (k := k + 1) HB.out HT.out (by omega) (by omega) hc)
            clear hc
            go_wp2_with fail
            go_ret3
            exact ⟨0, 0, false, rfl, nofun, fun _ => HN.out, rfl⟩
        · have hkk : k = nd := by omega
          subst k
          by_cases h1 : acc s i m nd < lo
          · have HN := Lib.hid (no_range HB.out HT.out (by omega))
            go_wp2_with fail
            go_ret3
            exact ⟨0, 0, false, rfl, nofun, fun _ => HN.out, rfl⟩
          by_cases h2 : hi' < acc s i m nd
          · have HN := Lib.hid (no_range HB.out HT.out (by omega))
            go_wp2_with fail
            go_ret3
            exact ⟨0, 0, false, rfl, nofun, fun _ => HN.out, rfl⟩
          have HC := Lib.hid (cp_of HB.out HT.out hin (fun j h1 h2 => HALL.out j h1 (by omega)) (by omega) (by omega))
          go_wp2_with fail
          go_ret3
          exact ⟨_, nd + 1, true, rfl, fun _ => HC.out, nofun, rfl⟩
    · have HN := Lib.hid (no_len HB.out HT.out hin)
      go_wp2_with fail
      go_ret3
      exact ⟨0, 0, false, rfl, nofun, fun _ => HN.out, rfl⟩
end Go.Proofs.Ytojckppnooaiaaa.qw
