/-
  Well-formed UTF-8: the validity test, the bytes of a place, the units of a string.
-/
import Derived.Test.YtjhmdagdmclknaaUg
namespace Go.Proofs.Ytjhmdagdmclknaa.ut
open Go.ChangeShapes Go.WideShapes Go.ChangeAt Go.RowKit Go.Deep Go.Proofs.Ytjhmdagdmclknaa.u8
set_option linter.unusedVariables false
set_option linter.unusedSimpArgs false
def CutT (b : Nat) (v5 v6 v7 : Value) : Prop := ∃ m lo hi : Nat, v5 = .int .i64 m ∧ v6 = .int .u8 lo ∧ v7 = .int .u8 hi ∧ Tb b (m + 1) lo hi
def ValP (s : ByteArray) (w : World) (e : Ending) (w' : World) : Prop := ∃ v, e = .returned (.bool v) ∧ (v = true → VS s) ∧ w = w'
theorem pl_step {s : ByteArray} {t i n : Nat} (h : pl s t = i) (e : (Utf8.decode s i).2 = n) : pl s (t + 1) = i + n := by subst h; rw [← e]; rfl
theorem ok_step {s : ByteArray} {t i : Nat} (h : pl s t = i) (hk : ∀ u, u < t → Ok s (pl s u)) (ho : Ok s i) : ∀ u, u < t + 1 → Ok s (pl s u) := fun u hu => by
  by_cases e : u = t
  · subst e; rw [h]; exact ho
  · exact hk u (by omega)
set_option maxRecDepth 100000 in
set_option maxHeartbeats 8000000 in
theorem valid6 (w : World) (s : ByteArray) (hs : s.size ≤ 1048576) : Calls Try.prog 6 #[.string s] w (ValP s w) := by
  go_enter Try.func6, Try.ntmps6
  go_wp2_with fail
  go_loop [3] (fun v => ∃ t i : Nat, pl s t = i ∧ v = .int .i64 i ∧ i ≤ s.size ∧ ∀ u, u < t → Ok s (pl s u)) (fun v => s.size - (intOf v).toNat)
  case atStart => exact ⟨0, 0, rfl, rfl, by omega, fun u hu => by omega⟩
  case round =>
    obtain ⟨t, i, hpl, rfl, hi, hok⟩ := hrel
    have HPL := Lib.hid hpl
    have HOK := Lib.hid hok
    clear hpl hok
    by_cases hlt : i < s.size
    · have hbt := bt_at s i hlt
      go_upto_if 18 with (fail)
      have HBE : Hid (∃ b, bt s i = b) := Lib.hid ⟨_, rfl⟩
      have hb2 := bt_lt s i
      obtain ⟨b, hb⟩ := HBE.out
      have HB := Lib.hid hb
      simp only [hb] at hb2
      rw [hb]
      clear hbt hb HBE
      by_cases hA : b < 128
      · have h1 := ok1 (s := s) (i := i) (by rw [HB.out]; exact hA)
        have H1 := Lib.hid h1
        clear h1
        go_wp2_with fail
        go_round
        case rel => exact ⟨t + 1, i + 1, pl_step HPL.out H1.out.2, by go_num, by omega, ok_step HPL.out HOK.out H1.out.1⟩
        case measure => simp [intOf]; omega
      by_cases hB : b < 194
      · have q1 : ((b : Int) == 224) = false := by simp; omega
        have q2 : ((b : Int) == 237) = false := by simp; omega
        have q3 : ((b : Int) == 238) = false := by simp; omega
        have q4 : ((b : Int) == 239) = false := by simp; omega
        have q5 : ((b : Int) == 240) = false := by simp; omega
        have q6 : ((b : Int) == 244) = false := by simp; omega
        go_wp2_with fail
        go_ret
        exact ⟨false, rfl, nofun, rfl⟩
      by_cases hC : 244 < b
      · have q1 : ((b : Int) == 224) = false := by simp; omega
        have q2 : ((b : Int) == 237) = false := by simp; omega
        have q3 : ((b : Int) == 238) = false := by simp; omega
        have q4 : ((b : Int) == 239) = false := by simp; omega
        have q5 : ((b : Int) == 240) = false := by simp; omega
        have q6 : ((b : Int) == 244) = false := by simp; omega
        go_wp2_with fail
        go_ret
        exact ⟨false, rfl, nofun, rfl⟩
      go_upto_block 2 with (fail)
      go_cut [5, 6, 7] (fun v5 v6 v7 wx => CutT b v5 v6 v7 ∧ w = wx)
      case first =>
        by_cases c0 : b ≤ 223
        · go_wp2_with fail
          go_meet
          exact ⟨⟨1, 128, 191, rfl, rfl, rfl, by unfold Tb; omega⟩, rfl⟩
        by_cases c1 : b = 224
        · subst c1
          go_wp2_with fail
          go_meet
          exact ⟨⟨2, 160, 191, rfl, rfl, rfl, by unfold Tb; omega⟩, rfl⟩
        by_cases c2 : b ≤ 236
        · have q1 : ((b : Int) == 224) = false := by simp; omega
          have hb225 : 225 ≤ b := by omega
          clear c1
          go_wp2_with fail
          go_meet
          exact ⟨⟨2, 128, 191, rfl, rfl, rfl, by unfold Tb; omega⟩, rfl⟩
        by_cases c3 : b = 237
        · subst c3
          go_wp2_with fail
          go_meet
          exact ⟨⟨2, 128, 159, rfl, rfl, rfl, by unfold Tb; omega⟩, rfl⟩
        by_cases c4 : b = 238
        · subst c4
          go_wp2_with fail
          go_meet
          exact ⟨⟨2, 128, 191, rfl, rfl, rfl, by unfold Tb; omega⟩, rfl⟩
        by_cases c5 : b = 239
        · subst c5
          go_wp2_with fail
          go_meet
          exact ⟨⟨2, 128, 191, rfl, rfl, rfl, by unfold Tb; omega⟩, rfl⟩
        by_cases c6 : b = 240
        · subst c6
          go_wp2_with fail
          go_meet
          exact ⟨⟨3, 144, 191, rfl, rfl, rfl, by unfold Tb; omega⟩, rfl⟩
        by_cases c7 : b ≤ 243
        · have q1 : ((b : Int) == 224) = false := by simp; omega
          have q2 : ((b : Int) == 237) = false := by simp; omega
          have q3 : ((b : Int) == 238) = false := by simp; omega
          have q4 : ((b : Int) == 239) = false := by simp; omega
          have q5 : ((b : Int) == 240) = false := by simp; omega
          clear c1 c3 c4 c5 c6
          go_wp2_with fail
          go_meet
          exact ⟨⟨3, 128, 191, rfl, rfl, rfl, by unfold Tb; omega⟩, rfl⟩
        obtain rfl : b = 244 := by omega
        go_wp2_with fail
        go_meet
        exact ⟨⟨3, 128, 143, rfl, rfl, rfl, by unfold Tb; omega⟩, rfl⟩
      case rest =>
        obtain ⟨⟨m, lo, hi', rfl, rfl, rfl, hT⟩, rfl⟩ := hcut
        have hn := hT.n
        obtain ⟨n2, n4, l1, h1⟩ := hn
        have HT := Lib.hid hT
        clear hT
        by_cases hin : i + (m + 1) ≤ s.size
        · have hbt1 := bt_at s (i + 1) (by omega)
          have hb1 := bt_lt s (i + 1)
          by_cases hlo : bt s (i + 1) < lo
          · go_wp2_with fail
            go_ret
            exact ⟨false, rfl, nofun, rfl⟩
          by_cases hhi : hi' < bt s (i + 1)
          · go_wp2_with fail
            go_ret
            exact ⟨false, rfl, nofun, rfl⟩
          go_wp2_with fail
          go_loop [9] (fun v => ∃ k : Nat, v = .int .i64 k ∧ 2 ≤ k ∧ k ≤ m + 1 ∧ ∀ j, 2 ≤ j → j < k → 128 ≤ bt s (i + j) ∧ bt s (i + j) ≤ 191) (fun v => m + 1 - (intOf v).toNat)
          case atStart => exact ⟨2, rfl, by omega, by omega, fun j h1 h2 => by omega⟩
          case round =>
            obtain ⟨k, rfl, hk2, hkn, hall⟩ := hrel
            have HALL := Lib.hid hall
            clear hall hbt1
            by_cases hk : k ≤ m
            · have hbk := bt_at s (i + k) (by omega)
              have hbk1 := bt_lt s (i + k)
              by_cases hc : bt s (i + k) < 128
              · go_wp2_with fail
                go_ret
                exact ⟨false, rfl, nofun, rfl⟩
              by_cases hc2 : 191 < bt s (i + k)
              · go_wp2_with fail
                go_ret
                exact ⟨false, rfl, nofun, rfl⟩
              have HC : Hid (128 ≤ bt s (i + k) ∧ bt s (i + k) ≤ 191) := Lib.hid ⟨by omega, by omega⟩
              go_wp2_with fail
              go_round
              case rel => exact ⟨k + 1, by go_num, by omega, by omega, fun j h1 h2 => by
                by_cases e : j = k
                · subst e; exact HC.out
                · exact HALL.out j h1 (by omega)⟩
              case measure => simp [intOf]; omega
            · have H1 := Lib.hid (okT (s := s) (i := i) (by rw [HB.out]; exact HT.out) hin (by omega) (by omega) (fun j h1 h2 => HALL.out j h1 (by omega)))
              go_wp2_with fail
              go_round
              case rel => exact ⟨t + 1, i + (m + 1), pl_step HPL.out H1.out.2, by go_num, by omega, ok_step HPL.out HOK.out H1.out.1⟩
              case measure => simp [intOf]; omega
        · go_wp2_with fail
          go_ret
          exact ⟨false, rfl, nofun, rfl⟩
    · have HV := Lib.hid (VS.of (s := s) (t := t) HOK.out (by rw [HPL.out]; omega))
      go_wp2_with fail
      go_ret
      exact ⟨true, rfl, fun _ => HV.out, rfl⟩

/-- The bytes that stand at a well-formed place. -/
theorem dec_inv {s : ByteArray} {i c wd : Nat} (h1 : (Utf8.decode s i).1 = c) (h2 : (Utf8.decode s i).2 = wd) (hr : rlen c = wd) :
    (wd = 1 ∧ bt s i = c ∧ c < 128) ∨ (wd = 2 ∧ bt s i = 192 + c / 64 ∧ bt s (i + 1) = 128 + c % 64 ∧ 128 ≤ c ∧ c < 2048) ∨
    (wd = 3 ∧ bt s i = 224 + c / 4096 ∧ bt s (i + 1) = 128 + c / 64 % 64 ∧ bt s (i + 2) = 128 + c % 64 ∧ 2048 ≤ c ∧ c < 65536) ∨
    (wd = 4 ∧ bt s i = 240 + c / 262144 ∧ bt s (i + 1) = 128 + c / 4096 % 64 ∧ bt s (i + 2) = 128 + c / 64 % 64 ∧ bt s (i + 3) = 128 + c % 64 ∧ 65536 ≤ c ∧ c < 1114112) := by
  have k0 := bt_lt s i; have k1 := bt_lt s (i + 1); have k2 := bt_lt s (i + 2); have k3 := bt_lt s (i + 3)
  have hg := dec_max s i
  rw [h1] at hg
  unfold GoodR at hg
  simp only [Utf8.decode, Nat.add_zero, show ∀ k, (s.get! k).toNat = bt s k from fun _ => rfl] at h1 h2
  have r3 : rlen 65533 = 3 := by decide
  split at h1
  · rename_i h
    rw [if_pos h] at h2
    simp only at h1 h2
    omega
  · rename_i h
    rw [if_neg h] at h2
    split at h1
    · rename_i h'
      rw [if_pos h'] at h2
      simp only [Bool.and_eq_true, beq_iff_eq, decide_eq_true_eq] at h'
      split at h1
      · rename_i h6
        rw [if_pos h6] at h2
        simp only at h1 h2
        omega
      · rename_i h6
        rw [if_neg h6] at h2
        simp only [Utf8.runeError] at h1 h2
        rw [← h1, r3] at hr; omega
    · rename_i h'
      rw [if_neg h'] at h2
      split at h1
      · rename_i h7
        rw [if_pos h7] at h2
        simp only [Bool.and_eq_true, beq_iff_eq, decide_eq_true_eq] at h7
        split at h1
        · rename_i h6
          rw [if_pos h6] at h2
          simp only [Bool.and_eq_true, decide_eq_true_eq, ge_iff_le] at h6
          simp only at h1 h2
          omega
        · rename_i h6
          rw [if_neg h6] at h2
          simp only [Utf8.runeError] at h1 h2
          rw [← h1, r3] at hr; omega
      · rename_i h7
        rw [if_neg h7] at h2
        split at h1
        · rename_i h8
          rw [if_pos h8] at h2
          simp only [Bool.and_eq_true, beq_iff_eq, decide_eq_true_eq] at h8
          split at h1
          · rename_i h6
            rw [if_pos h6] at h2
            simp only [Bool.and_eq_true, decide_eq_true_eq, ge_iff_le] at h6
            simp only at h1 h2
            omega
          · rename_i h6
            rw [if_neg h6] at h2
            simp only [Utf8.runeError] at h1 h2
            rw [← h1, r3] at hr; omega
        · rename_i h8
          rw [if_neg h8] at h2
          simp only [Utf8.runeError] at h1 h2
          rw [← h1, r3] at hr; omega
/-- The first bytes of a string. -/
def bs (s : ByteArray) (n : Nat) : List Int := (List.range n).map (fun k => (bt s k : Int))
theorem bs_succ (s : ByteArray) (n : Nat) : bs s (n + 1) = bs s n ++ [(bt s n : Int)] := by simp [bs, List.range_succ]
theorem bs_len (s : ByteArray) (n : Nat) : (bs s n).length = n := by simp [bs]
/-- The units that lie before the i-th belong to what lies before pos. -/
def Ux (s : ByteArray) (pos i : Nat) : Prop := ∃ b xs, xs ++ us s b pos = us s s.size 0 ∧ xs.length = i ∧ s.size ≤ pos + b
theorem Ux.start (s : ByteArray) : Ux s 0 0 := ⟨s.size, [], by simp, rfl, by omega⟩
theorem Ux.done {s : ByteArray} {pos i : Nat} (h : Ux s pos i) (hp : ¬ pos < s.size) : i = (us s s.size 0).length := by
  obtain ⟨b, xs, h1, h2, _⟩ := h
  rw [us_end s b pos hp, List.append_nil] at h1
  rw [← h1, h2]
theorem Ux.one {s : ByteArray} {pos i c wd : Nat} (h : Ux s pos i) (hp : pos < s.size) (hc : (Utf8.decode s pos).1 = c) (hw : (Utf8.decode s pos).2 = wd) (h16 : c ≤ 65535) :
    (us s s.size 0).getD i 0 = (c : Int) ∧ i + 1 ≤ (us s s.size 0).length ∧ Ux s (pos + wd) (i + 1) := by
  obtain ⟨b, xs, h1, h2, h3⟩ := h
  have hf := fits s pos hp
  rw [hw] at hf
  obtain ⟨b, rfl⟩ : ∃ b', b = b' + 1 := ⟨b - 1, by omega⟩
  rw [us, if_pos hp, hc, hw] at h1
  have he : enc c = [(c : Int)] := by unfold enc; rw [if_pos h16]
  rw [he] at h1
  refine ⟨?_, ?_, b, xs ++ [(c : Int)], by rw [← h1, List.append_assoc], by simp [h2], by omega⟩
  · rw [← h1, ← h2]; simp
  · rw [← h1]; simp; omega
theorem Ux.two {s : ByteArray} {pos i c wd : Nat} (h : Ux s pos i) (hp : pos < s.size) (hc : (Utf8.decode s pos).1 = c) (hw : (Utf8.decode s pos).2 = wd) (h16 : 65535 < c) :
    (us s s.size 0).getD i 0 = 55296 + ((c : Int) - 65536) / 1024 ∧ (us s s.size 0).getD (i + 1) 0 = 56320 + ((c : Int) - 65536) % 1024 ∧ i + 2 ≤ (us s s.size 0).length ∧ Ux s (pos + wd) (i + 2) := by
  obtain ⟨b, xs, h1, h2, h3⟩ := h
  have hf := fits s pos hp
  rw [hw] at hf
  obtain ⟨b, rfl⟩ : ∃ b', b = b' + 1 := ⟨b - 1, by omega⟩
  rw [us, if_pos hp, hc, hw] at h1
  have he : enc c = [55296 + ((c : Int) - 65536) / 1024, 56320 + ((c : Int) - 65536) % 1024] := by unfold enc; rw [if_neg (by omega)]
  rw [he] at h1
  refine ⟨?_, ?_, ?_, b, xs ++ [55296 + ((c : Int) - 65536) / 1024, 56320 + ((c : Int) - 65536) % 1024], by rw [← h1, List.append_assoc], by simp [h2], by omega⟩
  · rw [← h1, ← h2]; simp
  · rw [← h1, ← h2]
    have : xs.length + 1 < (xs ++ ([55296 + ((c : Int) - 65536) / 1024, 56320 + ((c : Int) - 65536) % 1024] ++ us s b (pos + wd))).length := by simp
    rw [List.getD_eq_getElem?_getD, List.getElem?_append_right (by omega)]
    simp
  · rw [← h1]; simp; omega
theorem or_u32 (a x r : Nat) (hr : a ||| x = r) (hb : r < 4294967296) (ha : a < 4294967296) (hx : x < 4294967296) : bits .or .u32 (a : Int) (x : Int) = (r : Int) := by
  show IntKind.u32.wrap ((BitVec.ofInt 32 (a : Int) ||| BitVec.ofInt 32 (x : Int)).toNat : Int) = _
  rw [BitVec.toNat_or, BitVec.ofInt_natCast, BitVec.ofInt_natCast, BitVec.toNat_ofNat, BitVec.toNat_ofNat, Nat.mod_eq_of_lt (by omega), Nat.mod_eq_of_lt (by omega), hr, IntKind.wrap_u32]
  omega
theorem and_u32 (a x r : Nat) (hr : a &&& x = r) (hb : r < 4294967296) (ha : a < 4294967296) (hx : x < 4294967296) : bits .and .u32 (a : Int) (x : Int) = (r : Int) := by
  show IntKind.u32.wrap ((BitVec.ofInt 32 (a : Int) &&& BitVec.ofInt 32 (x : Int)).toNat : Int) = _
  rw [BitVec.toNat_and, BitVec.ofInt_natCast, BitVec.ofInt_natCast, BitVec.toNat_ofNat, BitVec.toNat_ofNat, Nat.mod_eq_of_lt (by omega), Nat.mod_eq_of_lt (by omega), hr, IntKind.wrap_u32]
  omega
theorem o192 (x : Nat) (h : x < 32) : bits .or .u32 192 (x : Int) = 192 + (x : Int) := by
  have := or_u32 192 x (192 + x) (by have := nat_join 6 192 x (by omega) (by omega); simpa using this) (by omega) (by omega) (by omega)
  simpa using this
theorem o224 (x : Nat) (h : x < 16) : bits .or .u32 224 (x : Int) = 224 + (x : Int) := by
  have := or_u32 224 x (224 + x) (by have := nat_join 5 224 x (by omega) (by omega); simpa using this) (by omega) (by omega) (by omega)
  simpa using this
theorem o240 (x : Nat) (h : x < 8) : bits .or .u32 240 (x : Int) = 240 + (x : Int) := by
  have := or_u32 240 x (240 + x) (by have := nat_join 4 240 x (by omega) (by omega); simpa using this) (by omega) (by omega) (by omega)
  simpa using this
theorem o128 (x : Nat) (h : x < 64) : bits .or .u32 128 (x : Int) = 128 + (x : Int) := by
  have := or_u32 128 x (128 + x) (by have := nat_join 7 128 x (by omega) (by omega); simpa using this) (by omega) (by omega) (by omega)
  simpa using this
theorem a63 (x : Nat) (h : x < 4294967296) : bits .and .u32 (x : Int) 63 = ((x % 64 : Nat) : Int) := by
  have := and_u32 x 63 (x % 64) (Nat.and_two_pow_sub_one_eq_mod x 6) (by omega) h (by omega)
  simpa using this
end Go.Proofs.Ytjhmdagdmclknaa.ut
