/-
  The validity test walked: it says yes to well-formed UTF-8 alone.
-/
import Derived.Test.YthmakfnceliciaaVa
import Derived.Test.YthmakfnceliciaaMk
import Derived.Test.YthmakfnceliciaaProg
import Derived.ProofKit
import Derived.Below
import Derived.ChangeOld
import Derived.OpenShut
import Derived.Lib.Hide
import Derived.WalkLawsBesides
import Derived.Deep.OwnRows
import Derived.Laws.Rows
import Derived.WalkSpells
import Derived.WalkSmall
import Derived.Outline
import Derived.BigQuiet
import Derived.Deep.QuietTactic
import Derived.Deep.DeepCutAuto
import Derived.Deep.CutBlock
import Derived.Laws.RangeString
import Derived.Laws.RangeAny
import Derived.Lib.OthersKept
namespace Go.Proofs.Ythmakfnceliciaa.ty
open Go.ChangeShapes Go.WideShapes Go.ChangeAt Go.RowKit Go.Deep Go.Proofs.Ythmakfnceliciaa.mk Go.Proofs.Ythmakfnceliciaa.u8
set_option linter.unusedVariables false
set_option linter.unusedSimpArgs false
theorem and192 : ∀ b, b < 256 → bits .and .u8 ((b : Nat) : Int) 192 = ((b / 64 * 64 : Nat) : Int) := by decide +kernel
theorem and192_no {b : Nat} (hb : b < 256) (h : 128 ≤ b) (h' : b ≤ 191) : (bits .and .u8 (b : Int) 192 != 128) = false := by
  rw [and192 b hb, show b / 64 * 64 = 128 by omega]; decide
theorem and192_yes {b : Nat} (hb : b < 256) (h : ¬ (128 ≤ b ∧ b ≤ 191)) : (bits .and .u8 (b : Int) 192 != 128) = true := by
  rw [and192 b hb]
  have : b / 64 * 64 ≠ 128 := by omega
  simp only [bne_iff_ne, ne_eq]
  omega
def CutT (b : Nat) (v5 v6 v7 : Value) : Prop := ∃ n lo hi : Nat, v5 = .int .i64 n ∧ v6 = .int .u8 lo ∧ v7 = .int .u8 hi ∧ Tb b n lo hi
def ValP (s : ByteArray) (w : World) (e : Ending) (w' : World) : Prop := ∃ v, e = .returned (.bool v) ∧ (v = true → VS s) ∧ w = w'
theorem pl_step {s : ByteArray} {t i n : Nat} (h : pl s t = i) (e : (Utf8.decode s i).2 = n) : pl s (t + 1) = i + n := by subst h; rw [← e]; rfl
theorem ok_step {s : ByteArray} {t i : Nat} (h : pl s t = i) (hk : ∀ u, u < t → Ok s (pl s u)) (ho : Ok s i) : ∀ u, u < t + 1 → Ok s (pl s u) := fun u hu => by
  by_cases e : u = t
  · subst e; rw [h]; exact ho
  · exact hk u (by omega)
set_option maxRecDepth 100000 in
set_option maxHeartbeats 8000000 in
theorem valid7 (w : World) (s : ByteArray) (hs : s.size ≤ 1048576) : Calls Try.prog 7 #[.string s] w (ValP s w) := by
  go_enter Try.func7, Try.ntmps7
  go_wp2_with fail
  go_loop [3] (fun v => ∃ t i : Nat, pl s t = i ∧ v = .int .i64 i ∧ i ≤ s.size ∧ ∀ u, u < t → Ok s (pl s u)) (fun v => s.size - (intOf v).toNat)
  case atStart => exact ⟨0, 0, rfl, rfl, by omega, fun u hu => by omega⟩
  case round =>
    obtain ⟨t, i, hpl, rfl, hi, hok⟩ := hrel
    have HPL := Lib.hid hpl
    have HOK := Lib.hid hok
    clear hpl hok
    by_cases hlt : i < s.size
    · have hbt := bt_at s i hlt
      go_upto_if 18 with (fail)
      have HBE : Hid (∃ b, bt s i = b) := Lib.hid ⟨_, rfl⟩
      have hb2 := bt_lt s i
      obtain ⟨b, hb⟩ := HBE.out
      have HB := Lib.hid hb
      simp only [hb] at hb2
      rw [hb]
      clear hbt hb HBE
      by_cases hA : b < 128
      · have h1 := ok1 (s := s) (i := i) (by rw [HB.out]; exact hA)
        have H1 := Lib.hid h1
        clear h1
        go_wp2_with fail
        go_round
        case rel => exact ⟨t + 1, i + 1, pl_step HPL.out H1.out.2, by go_num, by omega, ok_step HPL.out HOK.out H1.out.1⟩
        case measure => simp [intOf]; omega
      by_cases hB : b < 194
      · have q1 : ((b : Int) == 224) = false := by simp; omega
        have q2 : ((b : Int) == 237) = false := by simp; omega
        have q3 : ((b : Int) == 238) = false := by simp; omega
        have q4 : ((b : Int) == 239) = false := by simp; omega
        have q5 : ((b : Int) == 240) = false := by simp; omega
        have q6 : ((b : Int) == 244) = false := by simp; omega
        go_wp2_with fail
        go_ret
        exact ⟨false, rfl, nofun, rfl⟩
      by_cases hC : 244 < b
      · have q1 : ((b : Int) == 224) = false := by simp; omega
        have q2 : ((b : Int) == 237) = false := by simp; omega
        have q3 : ((b : Int) == 238) = false := by simp; omega
        have q4 : ((b : Int) == 239) = false := by simp; omega
        have q5 : ((b : Int) == 240) = false := by simp; omega
        have q6 : ((b : Int) == 244) = false := by simp; omega
        go_wp2_with fail
        go_ret
        exact ⟨false, rfl, nofun, rfl⟩
      go_upto_block 2 with (fail)
      go_cut [5, 6, 7] (fun v5 v6 v7 wx => CutT b v5 v6 v7 ∧ w = wx)
      case first =>
        by_cases c0 : b ≤ 223
        · go_wp2_with fail
          go_meet
          exact ⟨⟨2, 128, 191, rfl, rfl, rfl, by unfold Tb; omega⟩, rfl⟩
        by_cases c1 : b = 224
        · subst c1
          go_wp2_with fail
          go_meet
          exact ⟨⟨3, 160, 191, rfl, rfl, rfl, by unfold Tb; omega⟩, rfl⟩
        by_cases c2 : b ≤ 236
        · have q1 : ((b : Int) == 224) = false := by simp; omega
          clear c1
          go_wp2_with fail
          go_meet
          exact ⟨⟨3, 128, 191, rfl, rfl, rfl, by unfold Tb; omega⟩, rfl⟩
        by_cases c3 : b = 237
        · subst c3
          go_wp2_with fail
          go_meet
          exact ⟨⟨3, 128, 159, rfl, rfl, rfl, by unfold Tb; omega⟩, rfl⟩
        by_cases c4 : b = 238
        · subst c4
          go_wp2_with fail
          go_meet
          exact ⟨⟨3, 128, 191, rfl, rfl, rfl, by unfold Tb; omega⟩, rfl⟩
        by_cases c5 : b = 239
        · subst c5
          go_wp2_with fail
          go_meet
          exact ⟨⟨3, 128, 191, rfl, rfl, rfl, by unfold Tb; omega⟩, rfl⟩
        by_cases c6 : b = 240
        · subst c6
          go_wp2_with fail
          go_meet
          exact ⟨⟨4, 144, 191, rfl, rfl, rfl, by unfold Tb; omega⟩, rfl⟩
        by_cases c7 : b ≤ 243
        · have q1 : ((b : Int) == 224) = false := by simp; omega
          have q2 : ((b : Int) == 237) = false := by simp; omega
          have q3 : ((b : Int) == 238) = false := by simp; omega
          have q4 : ((b : Int) == 239) = false := by simp; omega
          have q5 : ((b : Int) == 240) = false := by simp; omega
          clear c1 c3 c4 c5 c6
          go_wp2_with fail
          go_meet
          exact ⟨⟨4, 128, 191, rfl, rfl, rfl, by unfold Tb; omega⟩, rfl⟩
        obtain rfl : b = 244 := by omega
        go_wp2_with fail
        go_meet
        exact ⟨⟨4, 128, 143, rfl, rfl, rfl, by unfold Tb; omega⟩, rfl⟩
      case rest =>
        obtain ⟨⟨n, lo, hi', rfl, rfl, rfl, hT⟩, rfl⟩ := hcut
        have hn := hT.n
        obtain ⟨n2, n4, l1, h1⟩ := hn
        have HT := Lib.hid hT
        clear hT
        by_cases hin : i + n ≤ s.size
        · have hbt1 := bt_at s (i + 1) (by omega)
          have hb1 := bt_lt s (i + 1)
          by_cases hlo : bt s (i + 1) < lo
          · go_wp2_with fail
            go_ret
            exact ⟨false, rfl, nofun, rfl⟩
          by_cases hhi : hi' < bt s (i + 1)
          · go_wp2_with fail
            go_ret
            exact ⟨false, rfl, nofun, rfl⟩
          go_wp2_with fail
          go_loop [9] (fun v => ∃ k : Nat, v = .int .i64 k ∧ 2 ≤ k ∧ k ≤ n ∧ ∀ j, 2 ≤ j → j < k → 128 ≤ bt s (i + j) ∧ bt s (i + j) ≤ 191) (fun v => n - (intOf v).toNat)
          case atStart => exact ⟨2, rfl, by omega, by omega, fun j h1 h2 => by omega⟩
          case round =>
            obtain ⟨k, rfl, hk2, hkn, hall⟩ := hrel
            have HALL := Lib.hid hall
            clear hall hbt1
            by_cases hk : k < n
            · have hbk := bt_at s (i + k) (by omega)
              have hbk1 := bt_lt s (i + k)
              by_cases hc : 128 ≤ bt s (i + k) ∧ bt s (i + k) ≤ 191
              · have ha := and192_no hbk1 hc.1 hc.2
                have HC := Lib.hid hc
                clear hc
                go_wp2_with fail
                go_round
                case rel => exact ⟨k + 1, by go_num, by omega, by omega, fun j h1 h2 => by
                  by_cases e : j = k
                  · subst e; exact HC.out
                  · exact HALL.out j h1 (by omega)⟩
                case measure => simp [intOf]; omega
              · have ha := and192_yes hbk1 hc
                clear hc
                go_wp2_with fail
                go_ret
                exact ⟨false, rfl, nofun, rfl⟩
            · have H1 := Lib.hid (okT (s := s) (i := i) (by rw [HB.out]; exact HT.out) hin (by omega) (by omega) (fun j h1 h2 => HALL.out j h1 (by omega)))
              go_wp2_with fail
              go_round
              case rel => exact ⟨t + 1, i + n, pl_step HPL.out H1.out.2, by go_num, by omega, ok_step HPL.out HOK.out H1.out.1⟩
              case measure => simp [intOf]; omega
        · go_wp2_with fail
          go_ret
          exact ⟨false, rfl, nofun, rfl⟩
    · have HV := Lib.hid (VS.of (s := s) (t := t) HOK.out (by rw [HPL.out]; omega))
      go_wp2_with fail
      go_ret
      exact ⟨true, rfl, fun _ => HV.out, rfl⟩
end Go.Proofs.Ythmakfnceliciaa.ty
