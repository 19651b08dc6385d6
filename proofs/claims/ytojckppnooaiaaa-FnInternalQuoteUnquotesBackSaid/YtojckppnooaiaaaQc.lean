/-
  zzIsWTF8, canPrintWithoutEscape, RuneLen walked.
-/
import Derived.Test.YtojckppnooaiaaaQb
namespace Go.Proofs.Ytojckppnooaiaaa.qw
open Go.ChangeShapes Go.WideShapes Go.ChangeAt Go.RowKit Go.Deep Go.Proofs.Ytojckppnooaiaaa.qp
set_option linter.unusedVariables false
set_option linter.unusedSimpArgs false
def Inv (s : ByteArray) (i : Nat) (p : Bool) : Prop := ∀ ds, Ch s i ds → np p ds → Wf s
theorem Inv.start (s : ByteArray) : Inv s 0 false := fun ds h h' => ⟨ds, h, h'⟩
theorem Inv.next {s : ByteArray} {i c n : Nat} {p : Bool} (h : Inv s i p) (hc : Cp s i c n) (hp : ¬ (p = true ∧ loS c = true)) : Inv s (i + n) (hiS c) := fun ds h1 h2 => h (c :: ds) ⟨n, hc, h1⟩ ⟨hp, h2⟩
theorem Inv.done {s : ByteArray} {i : Nat} {p : Bool} (h : Inv s i p) (hi : i ≤ s.size) (hn : ¬ i < s.size) : Wf s := h [] (show i = s.size by omega) trivial
def WfP (s : ByteArray) (w : World) (e : Ending) (w' : World) : Prop := ∃ b, e = .returned (.bool b) ∧ (b = true → Wf s) ∧ w = w'
set_option maxRecDepth 100000 in
set_option maxHeartbeats 8000000 in
theorem wf6 (w : World) (s : ByteArray) (hs : s.size ≤ 1048576) : Calls Try.prog 6 #[.string s] w (WfP s w) := by
  go_enter Try.func6, Try.ntmps6
  go_wp2_with fail
  go_loop [3, 4] (fun v3 v4 => ∃ (p : Bool) (i : Nat), v3 = .bool p ∧ v4 = .int .i64 i ∧ i ≤ s.size ∧ Inv s i p) (fun _ v => s.size - (intOf v).toNat)
  case atStart => exact ⟨false, 0, rfl, rfl, by omega, Inv.start s⟩
  case round =>
    obtain ⟨p, i, rfl, rfl, hi, hinv⟩ := hrel
    have HI := Lib.hid hinv
    clear hinv
    by_cases hlt : i < s.size
    · go_upto_region 5 with (go_at_call 12; refine (dec12 _ s i hs hlt).mono ?_; rintro _ _ ⟨c, n, b, rfl, hc1, hc2, rfl⟩)
      cases b with
      | false =>
        clear hc1 hc2
        go_wp2_with fail
        go_ret
        exact ⟨false, rfl, nofun, rfl⟩
      | true =>
        have hc := hc1 rfl
        have hcn := hc.n
        have HC := Lib.hid hc
        obtain ⟨n1, n2, n3, n4⟩ := hcn
        clear hc1 hc2 hc
        by_cases hhi : 55296 ≤ c ∧ c ≤ 56319
        · have t1 : decide ((55296 : Int) ≤ (c : Int)) = true := by simp; omega
          have t2 : decide ((c : Int) ≤ 56319) = true := by simp; omega
          have t3 : decide ((56320 : Int) ≤ (c : Int)) = false := by simp; omega
          have hH : hiS c = true := by simp [hiS]; omega
          have hL : loS c = false := by simp [loS]; omega
          have HN := Lib.hid (HI.out.next HC.out (by simp [hL]))
          rw [hH] at HN
          clear hhi hH hL
          cases p
          all_goals (
            go_wp2_with fail
            go_round
            case rel => exact ⟨true, i + n, rfl, by go_num, by omega, HN.out⟩
            case measure => simp [intOf]; omega)
        · have hH : hiS c = false := by simp [hiS]; omega
          cases p with
          | false =>
            have HN := Lib.hid (HI.out.next HC.out (by simp))
            rw [hH] at HN
            by_cases h1 : 55296 ≤ c
            · have t1 : decide ((55296 : Int) ≤ (c : Int)) = true := by simp; omega
              have t2 : decide ((c : Int) ≤ 56319) = false := by simp; omega
              clear hhi hH h1
              go_wp2_with fail
              go_round
              case rel => exact ⟨false, i + n, rfl, by go_num, by omega, HN.out⟩
              case measure => simp [intOf]; omega
            · have t1 : decide ((55296 : Int) ≤ (c : Int)) = false := by simp; omega
              clear hhi hH h1
              go_wp2_with fail
              go_round
              case rel => exact ⟨false, i + n, rfl, by go_num, by omega, HN.out⟩
              case measure => simp [intOf]; omega
          | true =>
            by_cases hL : 56320 ≤ c ∧ c ≤ 57343
            · have t1 : decide ((56320 : Int) ≤ (c : Int)) = true := by simp; omega
              have t2 : decide ((c : Int) ≤ 57343) = true := by simp; omega
              clear hhi hH hL
              go_wp2_with fail
              go_ret
              exact ⟨false, rfl, nofun, rfl⟩
            · have HN := Lib.hid (HI.out.next HC.out (by simp [loS]; omega))
              rw [hH] at HN
              by_cases h1 : 55296 ≤ c
              · have t1 : decide ((55296 : Int) ≤ (c : Int)) = true := by simp; omega
                have t2 : decide ((c : Int) ≤ 56319) = false := by simp; omega
                have t3 : decide ((56320 : Int) ≤ (c : Int)) = true := by simp; omega
                have t4 : decide ((c : Int) ≤ 57343) = false := by simp; omega
                clear hhi hH h1 hL
                go_wp2_with fail
                go_round
                case rel => exact ⟨false, i + n, rfl, by go_num, by omega, HN.out⟩
                case measure => simp [intOf]; omega
              · have t1 : decide ((55296 : Int) ≤ (c : Int)) = false := by simp; omega
                have t3 : decide ((56320 : Int) ≤ (c : Int)) = false := by simp; omega
                clear hhi hH h1 hL
                go_wp2_with fail
                go_round
                case rel => exact ⟨false, i + n, rfl, by go_num, by omega, HN.out⟩
                case measure => simp [intOf]; omega
    · have HW := Lib.hid (HI.out.done hi hlt)
      go_wp2_with fail
      go_ret
      exact ⟨true, rfl, fun _ => HW.out, rfl⟩
set_option maxRecDepth 100000 in
set_option maxHeartbeats 8000000 in
theorem can17 (w : World) (a : Bool) (c : Int) : Calls Try.prog 17 #[.int .i32 c, .bool a] w (fun e w' => e = .returned (.bool (cpw a c)) ∧ w = w') := by
  obtain ⟨r, hr⟩ : ∃ r, cpw a c = r := ⟨_, rfl⟩
  rw [hr]
  have HR := Lib.hid hr
  unfold cpw at hr
  go_enter Try.func17, Try.ntmps17
  by_cases h1 : c ≤ 126
  · rw [if_pos h1] at hr
    by_cases h2 : 32 ≤ c
    · have t2 : decide ((32 : Int) ≤ c) = true := by simp; omega
      by_cases h3 : c = 92
      · subst h3
        have : r = false := by rw [← hr]; decide
        subst this
        clear hr
        go_wp2_with fail
        go_ret
        exact ⟨rfl, rfl⟩
      · have t3 : (c != 92) = true := by simp; omega
        by_cases h4 : c = 34
        · subst h4
          have : r = false := by rw [← hr]; decide
          subst this
          clear hr
          go_wp2_with fail
          go_ret
          exact ⟨rfl, rfl⟩
        · have t4 : (c != 34) = true := by simp; omega
          have : r = true := by rw [← hr]; simp; omega
          subst this
          clear hr h3 h4 h2
          go_wp2_with fail
          go_ret
          exact ⟨rfl, rfl⟩
    · have t2 : decide ((32 : Int) ≤ c) = false := by simp; omega
      have : r = false := by rw [← hr, t2]; rfl
      subst this
      clear hr h2
      go_wp2_with fail
      go_ret
      exact ⟨rfl, rfl⟩
  · rw [if_neg h1] at hr
    cases a with
    | true =>
      have : r = false := by rw [← hr]; rfl
      subst this
      clear hr
      go_wp2_with fail
      go_ret
      exact ⟨rfl, rfl⟩
    | false =>
      by_cases h3 : c = 65279
      · subst h3
        have : r = false := by rw [← hr]; decide
        subst this
        clear hr
        go_wp2_with fail
        go_ret
        exact ⟨rfl, rfl⟩
      · have t3 : (c != 65279) = true := by simp; omega
        by_cases h4 : c < 55296
        · have t4 : decide (c < 55296) = true := by simp; omega
          have : r = true := by rw [← hr]; simp; omega
          subst this
          clear hr h3 h4
          go_wp2_with fail
          go_ret
          exact ⟨rfl, rfl⟩
        · have t4 : decide (c < 55296) = false := by simp; omega
          by_cases h5 : 57343 < c
          · have t5 : decide ((57343 : Int) < c) = true := by simp; omega
            have : r = true := by rw [← hr]; simp; omega
            subst this
            clear hr h3 h4 h5
            go_wp2_with fail
            go_ret
            exact ⟨rfl, rfl⟩
          · have t5 : decide ((57343 : Int) < c) = false := by simp; omega
            have : r = false := by rw [← hr]; simp; omega
            subst this
            clear hr h3 h4 h5
            go_wp2_with fail
            go_ret
            exact ⟨rfl, rfl⟩
set_option maxRecDepth 100000 in
set_option maxHeartbeats 8000000 in
theorem len18 (w : World) (c : Int) (h0 : 0 ≤ c) (h1 : c < 55296 ∨ 57344 ≤ c) (h2 : c ≤ 1114111) : Calls Try.prog 18 #[.int .i32 c] w (fun e w' => (∃ n : Nat, e = .returned (.int .i64 n) ∧ 1 ≤ n ∧ n ≤ 4) ∧ w = w') := by
  go_enter Try.func18, Try.ntmps18
  go_wp2_with fail
  all_goals go_ret
  all_goals (first | exact ⟨⟨1, rfl, by omega, by omega⟩, rfl⟩ | exact ⟨⟨2, rfl, by omega, by omega⟩, rfl⟩ | exact ⟨⟨3, rfl, by omega, by omega⟩, rfl⟩ | exact ⟨⟨4, rfl, by omega, by omega⟩, rfl⟩ | omega)
theorem fits (s : ByteArray) (i : Nat) (h : i < s.size) : 1 ≤ (Utf8.decode s i).2 ∧ i + (Utf8.decode s i).2 ≤ s.size := by
  simp only [Utf8.decode]
  repeat' split
  all_goals simp_all
  all_goals omega
theorem dec_max (s : ByteArray) (i : Nat) : (Utf8.decode s i).1 < 55296 ∨ (57344 ≤ (Utf8.decode s i).1 ∧ (Utf8.decode s i).1 ≤ 1114111) := by
  have hb : ∀ k, bt s k < 256 := fun k => bt_lt s k
  have h0 := hb (i + 0); have h1 := hb (i + 1); have h2 := hb (i + 2); have h3 := hb (i + 3)
  simp only [Utf8.decode, show ∀ k, (s.get! k).toNat = bt s k from fun _ => rfl]
  repeat' split
  all_goals simp_all [Utf8.runeError, Utf8.valid]
  all_goals omega
end Go.Proofs.Ytojckppnooaiaaa.qw
