/-
  zzAppendCP walked.
-/
import Derived.Test.YtojckppnooaiaaaQh
namespace Go.Proofs.Ytojckppnooaiaaa.qw
open Go.ChangeShapes Go.WideShapes Go.ChangeAt Go.RowKit Go.Deep Go.Proofs.Ytojckppnooaiaaa.qp
set_option linter.unusedVariables false
set_option linter.unusedSimpArgs false
theorem l63 (x : Nat) (h : x < 2000000) : bits .and .i64 (x : Int) 63 = ((x % 64 : Nat) : Int) := by
  have := bits_mask .i64 62 (by decide) wraps_i64 6 (by decide) x (by omega) (by omega); simpa using this
theorem o192 : ∀ x, x < 32 → bits .or .i64 192 ((x : Nat) : Int) = ((192 + x : Nat) : Int) := by decide +kernel
theorem o224 : ∀ x, x < 16 → bits .or .i64 224 ((x : Nat) : Int) = ((224 + x : Nat) : Int) := by decide +kernel
theorem o240 : ∀ x, x < 8 → bits .or .i64 240 ((x : Nat) : Int) = ((240 + x : Nat) : Int) := by decide +kernel
theorem o128 : ∀ x, x < 64 → bits .or .i64 128 ((x : Nat) : Int) = ((128 + x : Nat) : Int) := by decide +kernel
set_option maxRecDepth 100000 in
set_option maxHeartbeats 4000000 in
theorem cp16 (W0 w : World) (v : Value) (ys : List Int) (c : Nat) (hc : c ≤ 1114111) (hl : ys.length ≤ 15000012) (hb : Ob W0 w v ys) : Calls Try.prog 16 #[v, .int .i64 c] w (GP W0 (ys ++ eb c)) := by
  have HB := Lib.hid hb
  obtain ⟨E, hE⟩ : ∃ E, eb c = E := ⟨_, rfl⟩
  rw [hE]
  clear hb
  unfold eb at hE
  by_cases h1 : c < 128
  · as_aux_lemma =>
    rw [if_pos h1] at hE
    subst hE
    have t1 : decide ((c : Int) < 128) = true := by simp; omega
    have c1 : (c : Int) < 256 := by omega
    clear hc
    go_enter Try.func16, Try.ntmps16
    go_wp2_with (at_builtin; refine app (.tmp 7) (.tmp 10) rfl rfl W0 _ _ ys [(c : Int)] _ rfl 1 1 rfl rfl HB.out rfl (by simp; omega) ?_; intro v1 W3 hb)
    go_ret
    exact ⟨_, rfl, hb⟩
  rw [if_neg h1] at hE
  have t1 : decide ((c : Int) < 128) = false := by simp; omega
  by_cases h2 : c < 2048
  · as_aux_lemma =>
    rw [if_pos h2] at hE
    have t2 : decide ((c : Int) < 2048) = true := by simp; omega
    obtain ⟨u, hu⟩ : ∃ u, c / 64 = u := ⟨_, rfl⟩
    have zu : (c : Int) / 64 = (u : Int) := by omega
    have ku := o192 u (by omega)
    obtain ⟨x, hx⟩ : ∃ x, 192 + u = x := ⟨_, rfl⟩
    rw [hx] at ku
    have mc := l63 c (by omega)
    obtain ⟨b0, hb0⟩ : ∃ u, c % 64 = u := ⟨_, rfl⟩
    rw [hb0] at mc
    have kb0 := o128 b0 (by omega)
    obtain ⟨y0, hy0⟩ : ∃ x, 128 + b0 = x := ⟨_, rfl⟩
    rw [hy0] at kb0
    have hEE : E = [(x : Int), (y0 : Int)] := by rw [← hE]; simp; omega
    subst hEE
    have wx : (x : Int) < 256 := by omega
    have wy0 : (y0 : Int) < 256 := by omega
    have lu : (u : Int) < 2048 := by omega
    have lb0 : (b0 : Int) < 64 := by omega
    have HC := Lib.hid hc
    have lc : (c : Int) < 2000000 := by omega
    clear hE hc hu hx hb0 hy0 h1  h2 
    go_enter Try.func16, Try.ntmps16
    go_wp2_with (at_builtin; refine app (.tmp 14) (.tmp 23) rfl rfl W0 _ _ ys [(x : Int), (y0 : Int)] _ rfl 2 2 rfl rfl HB.out rfl (by simp; omega) ?_; intro v1 W3 hb)
    go_ret
    exact ⟨_, rfl, hb⟩
  rw [if_neg h2] at hE
  have t2 : decide ((c : Int) < 2048) = false := by simp; omega
  by_cases h3 : c < 65536
  · as_aux_lemma =>
    rw [if_pos h3] at hE
    have HC3 := Lib.hid h3
    obtain ⟨u, hu⟩ : ∃ u, c / 4096 = u := ⟨_, rfl⟩
    have zu : (c : Int) / 4096 = (u : Int) := by omega
    have ku := o224 u (by omega)
    obtain ⟨x, hx⟩ : ∃ x, 224 + u = x := ⟨_, rfl⟩
    rw [hx] at ku
    obtain ⟨a1, ha1⟩ : ∃ u, c / 64 = u := ⟨_, rfl⟩
    have za1 : (c : Int) / 64 = (a1 : Int) := by omega
    have ma1 := l63 a1 (by omega)
    obtain ⟨b1, hb1⟩ : ∃ u, a1 % 64 = u := ⟨_, rfl⟩
    rw [hb1] at ma1
    have kb1 := o128 b1 (by omega)
    obtain ⟨y1, hy1⟩ : ∃ x, 128 + b1 = x := ⟨_, rfl⟩
    rw [hy1] at kb1
    have mc := l63 c (by omega)
    obtain ⟨b0, hb0⟩ : ∃ u, c % 64 = u := ⟨_, rfl⟩
    rw [hb0] at mc
    have kb0 := o128 b0 (by omega)
    obtain ⟨y0, hy0⟩ : ∃ x, 128 + b0 = x := ⟨_, rfl⟩
    rw [hy0] at kb0
    have hEE : E = [(x : Int), (y1 : Int), (y0 : Int)] := by rw [← hE]; simp; omega
    subst hEE
    have wx : (x : Int) < 256 := by omega
    have wy1 : (y1 : Int) < 256 := by omega
    have wy0 : (y0 : Int) < 256 := by omega
    have lu : (u : Int) < 2048 := by omega
    have la1 : (a1 : Int) < 70000 := by omega
    have lb1 : (b1 : Int) < 64 := by omega
    have lb0 : (b0 : Int) < 64 := by omega
    have HC := Lib.hid hc
    have lc : (c : Int) < 2000000 := by omega
    clear hE hc hu hx hb0 hy0 h1  h2 h3 ha1 hb1 hy1
    have t3 : decide ((c : Int) < 65536) = true := by have := HC3.out; simp; omega
    go_enter Try.func16, Try.ntmps16
    go_wp2_with (at_builtin; refine app (.tmp 27) (.tmp 41) rfl rfl W0 _ _ ys [(x : Int), (y1 : Int), (y0 : Int)] _ rfl 3 3 rfl rfl HB.out rfl (by simp; omega) ?_; intro v1 W3 hb)
    go_ret
    exact ⟨_, rfl, hb⟩
  · as_aux_lemma =>
    rw [if_neg h3] at hE
    have HC3 := Lib.hid h3
    obtain ⟨u, hu⟩ : ∃ u, c / 262144 = u := ⟨_, rfl⟩
    have zu : (c : Int) / 262144 = (u : Int) := by omega
    have ku := o240 u (by omega)
    obtain ⟨x, hx⟩ : ∃ x, 240 + u = x := ⟨_, rfl⟩
    rw [hx] at ku
    obtain ⟨a1, ha1⟩ : ∃ u, c / 4096 = u := ⟨_, rfl⟩
    have za1 : (c : Int) / 4096 = (a1 : Int) := by omega
    have ma1 := l63 a1 (by omega)
    obtain ⟨b1, hb1⟩ : ∃ u, a1 % 64 = u := ⟨_, rfl⟩
    rw [hb1] at ma1
    have kb1 := o128 b1 (by omega)
    obtain ⟨y1, hy1⟩ : ∃ x, 128 + b1 = x := ⟨_, rfl⟩
    rw [hy1] at kb1
    obtain ⟨a2, ha2⟩ : ∃ u, c / 64 = u := ⟨_, rfl⟩
    have za2 : (c : Int) / 64 = (a2 : Int) := by omega
    have ma2 := l63 a2 (by omega)
    obtain ⟨b2, hb2⟩ : ∃ u, a2 % 64 = u := ⟨_, rfl⟩
    rw [hb2] at ma2
    have kb2 := o128 b2 (by omega)
    obtain ⟨y2, hy2⟩ : ∃ x, 128 + b2 = x := ⟨_, rfl⟩
    rw [hy2] at kb2
    have mc := l63 c (by omega)
    obtain ⟨b0, hb0⟩ : ∃ u, c % 64 = u := ⟨_, rfl⟩
    rw [hb0] at mc
    have kb0 := o128 b0 (by omega)
    obtain ⟨y0, hy0⟩ : ∃ x, 128 + b0 = x := ⟨_, rfl⟩
    rw [hy0] at kb0
    have hEE : E = [(x : Int), (y1 : Int), (y2 : Int), (y0 : Int)] := by rw [← hE]; simp; omega
    subst hEE
    have wx : (x : Int) < 256 := by omega
    have wy1 : (y1 : Int) < 256 := by omega
    have wy2 : (y2 : Int) < 256 := by omega
    have wy0 : (y0 : Int) < 256 := by omega
    have lu : (u : Int) < 2048 := by omega
    have la1 : (a1 : Int) < 70000 := by omega
    have lb1 : (b1 : Int) < 64 := by omega
    have la2 : (a2 : Int) < 70000 := by omega
    have lb2 : (b2 : Int) < 64 := by omega
    have lb0 : (b0 : Int) < 64 := by omega
    have HC := Lib.hid hc
    have lc : (c : Int) < 2000000 := by omega
    clear hE hc hu hx hb0 hy0 h1  h2 h3 ha1 hb1 hy1 ha2 hb2 hy2
    have t3 : decide ((c : Int) < 65536) = false := by have := HC3.out; simp; omega
    go_enter Try.func16, Try.ntmps16
    go_wp2_with (at_builtin; refine app (.tmp 43) (.tmp 62) rfl rfl W0 _ _ ys [(x : Int), (y1 : Int), (y2 : Int), (y0 : Int)] _ rfl 4 4 rfl rfl HB.out rfl (by simp; omega) ?_; intro v1 W3 hb)
    go_ret
    exact ⟨_, rfl, hb⟩
end Go.Proofs.Ytojckppnooaiaaa.qw
