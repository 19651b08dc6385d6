/-
  DecodeWTF8Rune walked at a well-formed place.
-/
import Derived.Test.YtojckppnooaiaaaQc
namespace Go.Proofs.Ytojckppnooaiaaa.qw
open Go.ChangeShapes Go.WideShapes Go.ChangeAt Go.RowKit Go.Deep Go.Proofs.Ytojckppnooaiaaa.qp
set_option linter.unusedVariables false
set_option linter.unusedSimpArgs false
theorem h224 : ∀ b, b < 256 → bits .and .u8 ((b : Nat) : Int) 224 = ((b / 32 * 32 : Nat) : Int) := by decide +kernel
theorem h240 : ∀ b, b < 256 → bits .and .u8 ((b : Nat) : Int) 240 = ((b / 16 * 16 : Nat) : Int) := by decide +kernel
theorem h248 : ∀ b, b < 256 → bits .and .u8 ((b : Nat) : Int) 248 = ((b / 8 * 8 : Nat) : Int) := by decide +kernel
theorem h192 : ∀ b, b < 256 → bits .and .u8 ((b : Nat) : Int) 192 = ((b / 64 * 64 : Nat) : Int) := by decide +kernel
theorem h192_no {b : Nat} (h : 128 ≤ b ∧ b ≤ 191) : (bits .and .u8 (b : Int) 192 != 128) = false := by
  rw [h192 b (by omega), show b / 64 * 64 = 128 by omega]; decide
theorem h63 (x y : Nat) (hx : x < 256) (hy : x % 64 = y) : bits .and .u8 (x : Int) 63 = (y : Int) := by
  rw [u8_and63 x (by omega) (by omega)]; omega
theorem h31 (x y : Nat) (hx : x < 256) (hy : x % 32 = y) : bits .and .u8 (x : Int) 31 = (y : Int) := by
  rw [u8_and31 x (by omega) (by omega)]; omega
theorem h15 (x y : Nat) (hx : x < 256) (hy : x % 16 = y) : bits .and .u8 (x : Int) 15 = (y : Int) := by
  rw [u8_and15 x (by omega) (by omega)]; omega
theorem h7 (x y : Nat) (hx : x < 256) (hy : x % 8 = y) : bits .and .u8 (x : Int) 7 = (y : Int) := by
  rw [u8_and7 x (by omega) (by omega)]; omega
theorem jo6 (x y z : Nat) (hx : x < 30000000) (hy : y < 64) (hz : x * 64 + y = z) : bits .or .i32 ((x : Int) * 64) (y : Int) = (z : Int) := by
  rw [i32_or6 _ _ (by omega) (by omega) (by omega) (by omega) (by omega)]; omega
theorem jo12 (x y z : Nat) (hx : x < 500000) (hy : y < 64) (hz : x * 64 + y = z) : bits .or .i32 ((x : Int) * 4096) ((y : Int) * 64) = (z : Int) * 64 := by
  rw [i32_or12 _ _ (by omega) (by omega) (by omega) (by omega) (by omega)]; omega
theorem jo18 (x y z : Nat) (hx : x < 8000) (hy : y < 64) (hz : x * 64 + y = z) : bits .or .i32 ((x : Int) * 262144) ((y : Int) * 4096) = (z : Int) * 4096 := by
  rw [i32_or18 _ _ (by omega) (by omega) (by omega) (by omega) (by omega)]; omega
theorem jo12' (x y z : Nat) (hx : x < 500000) (hy : y < 64) (hz : x * 64 + y = z) : bits .or .i32 ((x : Int) * 4096) ((y : Int) * 64) = (z : Int) * 64 := jo12 x y z hx hy hz
def Astral (c : Nat) : Prop := 65536 ≤ c ∧ c ≤ 1114111
def WDP (c n : Nat) (w : World) (e : Ending) (w' : World) : Prop := e = .returned (.tuple #[.int .i32 c, .int .i64 n]) ∧ w = w'
set_option maxRecDepth 100000 in
set_option maxHeartbeats 8000000 in
theorem dec19 (w : World) (s : ByteArray) (c n : Nat) (hs : s.size ≤ 1048576) (h : Cp s 0 c n) : Calls Try.prog 19 #[.string s] w (WDP c n w) := by
  have hn := h.n
  obtain ⟨n1, n2, n3, n4⟩ := hn
  unfold Cp at h
  have hz : 0 < s.size := by omega
  have hb0 := bt_at s 0 hz
  rcases h with ⟨rfl, h0, h1, h2⟩ | ⟨rfl, h0, h1, h2, h3, h4⟩ | ⟨rfl, h0, h1, h2, h3, h4, h5⟩ | ⟨rfl, h0, h1, h2, h3, h4, h5, h6⟩
  · rw [h2] at hb0
    clear h2
    go_enter Try.func19, Try.ntmps19
    go_wp2_with fail
    go_ret2
    exact ⟨rfl, rfl⟩
  · have hb1 := bt_at s 1 (by omega)
    rw [Nat.zero_add] at h4
    rw [h3] at hb0
    rw [h4] at hb1
    obtain ⟨x, hx⟩ : ∃ x, 192 + c / 64 = x := ⟨_, rfl⟩
    obtain ⟨y, hy⟩ : ∃ y, 128 + c % 64 = y := ⟨_, rfl⟩
    rw [hx] at hb0
    rw [hy] at hb1
    have q1 : (bits .and .u8 (x : Int) 224 == 192) = true := by rw [h224 x (by omega), show x / 32 * 32 = 192 by omega]; decide
    have q2 := h192_no (b := y) (by omega)
    obtain ⟨u, hu⟩ : ∃ u, c / 64 = u := ⟨_, rfl⟩
    obtain ⟨v, hv⟩ : ∃ v, c % 64 = v := ⟨_, rfl⟩
    have q3 := h31 x u (by omega) (by omega)
    have q4 := h63 y v (by omega) (by omega)
    have q5 := jo6 u v c (by omega) (by omega) (by omega)
    have u1 : u < 32 := by omega
    have v1 : v < 64 := by omega
    have x1 : 128 ≤ x ∧ x < 256 := by omega
    have y1 : y < 256 := by omega
    obtain ⟨x1, x2⟩ := x1
    have t1 : decide ((c : Int) < 128) = false := by simp; omega
    clear hx hy hu hv h3 h4
    go_enter Try.func19, Try.ntmps19
    go_wp2_with fail
    go_ret2
    exact ⟨rfl, rfl⟩
  · have hb1 := bt_at s 1 (by omega)
    have hb2 := bt_at s 2 (by omega)
    rw [Nat.zero_add] at h4 h5
    rw [h3] at hb0
    rw [h4] at hb1
    rw [h5] at hb2
    obtain ⟨x, hx⟩ : ∃ x, 224 + c / 4096 = x := ⟨_, rfl⟩
    obtain ⟨y, hy⟩ : ∃ y, 128 + c / 64 % 64 = y := ⟨_, rfl⟩
    obtain ⟨z, hz'⟩ : ∃ y, 128 + c % 64 = y := ⟨_, rfl⟩
    rw [hx] at hb0
    rw [hy] at hb1
    rw [hz'] at hb2
    have q1 : (bits .and .u8 (x : Int) 224 == 192) = false := by rw [h224 x (by omega), show x / 32 * 32 = 224 by omega]; decide
    have q1' : (bits .and .u8 (x : Int) 240 == 224) = true := by rw [h240 x (by omega), show x / 16 * 16 = 224 by omega]; decide
    have q2 := h192_no (b := y) (by omega)
    have q2' := h192_no (b := z) (by omega)
    obtain ⟨u, hu⟩ : ∃ u, c / 4096 = u := ⟨_, rfl⟩
    obtain ⟨v, hv⟩ : ∃ v, c / 64 % 64 = v := ⟨_, rfl⟩
    obtain ⟨r, hr⟩ : ∃ v, c % 64 = v := ⟨_, rfl⟩
    obtain ⟨uv, huv⟩ : ∃ v, c / 64 = v := ⟨_, rfl⟩
    have q3 := h15 x u (by omega) (by omega)
    have q4 := h63 y v (by omega) (by omega)
    have q5 := h63 z r (by omega) (by omega)
    have q6 := jo12 u v uv (by omega) (by omega) (by omega)
    have q7 := jo6 uv r c (by omega) (by omega) (by omega)
    have u1 : u < 16 := by omega
    have v1 : v < 64 := by omega
    have r1 : r < 64 := by omega
    have uv1 : uv < 1024 := by omega
    have x1 : 128 ≤ x ∧ x < 256 := by omega
    have y1 : y < 256 := by omega
    have z1 : z < 256 := by omega
    obtain ⟨x1, x2⟩ := x1
    have t1 : decide ((c : Int) < 2048) = false := by simp; omega
    clear hx hy hz' hu hv hr huv h3 h4 h5
    go_enter Try.func19, Try.ntmps19
    go_wp2_with fail
    go_ret2
    exact ⟨rfl, rfl⟩
  · have hb1 := bt_at s 1 (by omega)
    have hb2 := bt_at s 2 (by omega)
    have hb3 := bt_at s 3 (by omega)
    rw [Nat.zero_add] at h4 h5 h6
    rw [h3] at hb0
    rw [h4] at hb1
    rw [h5] at hb2
    rw [h6] at hb3
    obtain ⟨x, hx⟩ : ∃ x, 240 + c / 262144 = x := ⟨_, rfl⟩
    obtain ⟨y, hy⟩ : ∃ y, 128 + c / 4096 % 64 = y := ⟨_, rfl⟩
    obtain ⟨z, hz'⟩ : ∃ y, 128 + c / 64 % 64 = y := ⟨_, rfl⟩
    obtain ⟨z2, hz2⟩ : ∃ y, 128 + c % 64 = y := ⟨_, rfl⟩
    rw [hx] at hb0
    rw [hy] at hb1
    rw [hz'] at hb2
    rw [hz2] at hb3
    have q1 : (bits .and .u8 (x : Int) 224 == 192) = false := by rw [h224 x (by omega), show x / 32 * 32 = 224 by omega]; decide
    have q1' : (bits .and .u8 (x : Int) 240 == 224) = false := by rw [h240 x (by omega), show x / 16 * 16 = 240 by omega]; decide
    have q1'' : (bits .and .u8 (x : Int) 248 == 240) = true := by rw [h248 x (by omega), show x / 8 * 8 = 240 by omega]; decide
    have q2 := h192_no (b := y) (by omega)
    have q2' := h192_no (b := z) (by omega)
    have q2'' := h192_no (b := z2) (by omega)
    obtain ⟨u, hu⟩ : ∃ u, c / 262144 = u := ⟨_, rfl⟩
    obtain ⟨v, hv⟩ : ∃ v, c / 4096 % 64 = v := ⟨_, rfl⟩
    obtain ⟨r, hr⟩ : ∃ v, c / 64 % 64 = v := ⟨_, rfl⟩
    obtain ⟨r2, hr2⟩ : ∃ v, c % 64 = v := ⟨_, rfl⟩
    obtain ⟨uv, huv⟩ : ∃ v, c / 4096 = v := ⟨_, rfl⟩
    obtain ⟨uw, huw⟩ : ∃ v, c / 64 = v := ⟨_, rfl⟩
    have q3 := h7 x u (by omega) (by omega)
    have q4 := h63 y v (by omega) (by omega)
    have q5 := h63 z r (by omega) (by omega)
    have q5' := h63 z2 r2 (by omega) (by omega)
    have q6 := jo18 u v uv (by omega) (by omega) (by omega)
    have q7 := jo12 uv r uw (by omega) (by omega) (by omega)
    have q8 := jo6 uw r2 c (by omega) (by omega) (by omega)
    have u1 : u < 8 := by omega
    have v1 : v < 64 := by omega
    have r1 : r < 64 := by omega
    have r21 : r2 < 64 := by omega
    have uv1 : uv < 300 := by omega
    have uw1 : uw < 20000 := by omega
    have x1 : 128 ≤ x ∧ x < 256 := by omega
    have y1 : y < 256 := by omega
    have z1 : z < 256 := by omega
    have z21 : z2 < 256 := by omega
    obtain ⟨x1, x2⟩ := x1
    have HA : Astral c := ⟨h1, h2⟩
    have c1 : c < 2000000 := by omega
    clear hx hy hz' hz2 hu hv hr hr2 huv huw h3 h4 h5 h6 h1 h2 n4
    go_enter Try.func19, Try.ntmps19
    go_upto_region 37 with (fail)
    have t1 : decide ((c : Int) < 65536) = false := by have := HA.1; simp; omega
    have t2 : decide ((1114111 : Int) < (c : Int)) = false := by have := HA.2; simp; omega
    go_wp2_with fail
    go_ret2
    exact ⟨rfl, rfl⟩
end Go.Proofs.Ytojckppnooaiaaa.qw
