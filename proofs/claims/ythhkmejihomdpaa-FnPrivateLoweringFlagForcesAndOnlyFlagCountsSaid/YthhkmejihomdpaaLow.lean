/-
  Contracts of the callees of FnPrivateLoweringFlagForcesAndOnlyFlagCounts.
-/
import Derived.Test.YthhkmejihomdpaaRows
import Derived.WalkKit
import Derived.ProofKit
import Derived.OpenShut
import Derived.ShutString
import Derived.Lib.Hide
import Derived.WalkLawsBesides
import Derived.Deep.QuietTactic
import Derived.BigQuiet
import Derived.Laws.Tables
import Derived.Laws.Rows
import Derived.Laws.BitsAllLaws
import Derived.WalkSmall
namespace Go.Proofs.Ythhkmejihomdpaa.low
open Go.ChangeShapes Go.WideShapes Go.ChangeAt Go.RowKit
set_option linter.unusedVariables false

def feat (k : Int) : Int := if k = 8 then 1024 else if k = 9 then 2048 else if k ≤ 12 then 256 else if k = 13 then 8192 else if k = 14 then 16384 else 4096

theorem feature (k : Int) (h1 : 8 ≤ k) (h2 : k ≤ 17) (w : World) :
    Calls Try.prog 10 #[.int .u8 k] w fun e w' => e = .returned (.int .u64 (feat k)) ∧ w = w' := by
  have hc : k = 8 ∨ k = 9 ∨ k = 10 ∨ k = 11 ∨ k = 12 ∨ k = 13 ∨ k = 14 ∨ k = 15 ∨ k = 16 ∨ k = 17 := by omega
  rcases hc with rfl | rfl | rfl | rfl | rfl | rfl | rfl | rfl | rfl | rfl
  all_goals
    clear h1 h2
    go_enter Try.func10, Try.ntmps10
    go_wp2
    go_ret
    exact ⟨rfl, rfl⟩

theorem has9 (x y : Int) (v : Bool) (hv : (bits .and .u64 x y != 0) = v) (w : World) :
    Calls Try.prog 9 #[.int .u64 x, .int .u64 y] w fun e w' => e = .returned (.bool v) ∧ w = w' := by
  subst hv
  go_enter Try.func9, Try.ntmps9
  go_wp2
  go_ret
  exact ⟨rfl, rfl⟩
theorem has11 (x y : Int) (v : Bool) (hv : (bits .and .u16 x y != 0) = v) (w : World) :
    Calls Try.prog 11 #[.int .u16 x, .int .u16 y] w fun e w' => e = .returned (.bool v) ∧ w = w' := by
  subst hv
  go_enter Try.func11, Try.ntmps11
  go_wp2
  go_ret
  exact ⟨rfl, rfl⟩

def Quietly (v : Bool) (w : World) (e : Ending) (w' : World) : Prop := e = .returned (.bool v) ∧ ∃ n, w.drewN n = w'

set_option maxHeartbeats 1000000 in
theorem needs (b q s : Nat) (u k f : Int) (hk1 : 8 ≤ k) (hk2 : k ≤ 17) (w : World) (c1 : w.cell? ⟨b, 106, none⟩ = some (.slice (some ⟨s, 0, none⟩) 1 1)) (c2 : w.cell? ⟨q, 1, none⟩ = some (.int .u32 0))
    (c3 : w.cell? ⟨b, 23, none⟩ = some (.int .u64 u)) (c4 : w.cell? ⟨s, 8, none⟩ = some (.int .u8 k)) (c5 : w.cell? ⟨s, 7, none⟩ = some (.int .u16 f))
    (x y : Bool) (hx : (bits .and .u64 u (feat k) != 0) = x) (hy : (bits .and .u16 f 8 != 0) = y) :
    Calls Try.prog 8 #[.pointer (some ⟨b, 0, none⟩), .pointer (some ⟨q, 0, none⟩)] w (Quietly (x || y) w) := by
  have HX := Lib.hid hx
  have HY := Lib.hid hy
  clear hx hy
  go_enter Try.func8, Try.ntmps8
  go_wp2_with fail
  go_quiet (fail)
  go_wp2_with fail
  have d3 : (w.drewN nq).cell? ⟨b, 23, none⟩ = some (.int .u64 u) := by simpa using c3
  have d4 : (w.drewN nq).cell? ⟨s, 8, none⟩ = some (.int .u8 k) := by simpa using c4
  have d5 : (w.drewN nq).cell? ⟨s, 7, none⟩ = some (.int .u16 f) := by simpa using c5
  have HG := Lib.hid (show ∃ n, w.drewN n = w.drewN nq from ⟨nq, rfl⟩)
  generalize w.drewN nq = w2 at *
  cases x
  · go_quiet (first | (go_at_call 10; exact Calls.quiet_of_same ((feature _ hk1 hk2 _).mono fun _ _ h => ⟨h.1, h.2.symm⟩)) | (go_at_call 9; exact Calls.quiet_of_same ((has9 _ _ _ HX.out _).mono fun _ _ h => ⟨h.1, h.2.symm⟩)) | (go_at_call 11; exact Calls.quiet_of_same ((has11 _ _ _ HY.out _).mono fun _ _ h => ⟨h.1, h.2.symm⟩)))
    go_wp2_with fail
    go_ret
    obtain ⟨n, rfl⟩ := HG.out
    exact ⟨rfl, _, (World.drewN_drewN _ _ _).symm⟩
  · go_quiet (first | (go_at_call 10; exact Calls.quiet_of_same ((feature _ hk1 hk2 _).mono fun _ _ h => ⟨h.1, h.2.symm⟩)) | (go_at_call 9; exact Calls.quiet_of_same ((has9 _ _ _ HX.out _).mono fun _ _ h => ⟨h.1, h.2.symm⟩)) | (go_at_call 11; exact Calls.quiet_of_same ((has11 _ _ _ HY.out _).mono fun _ _ h => ⟨h.1, h.2.symm⟩)))
    go_wp2_with fail
    go_ret
    obtain ⟨n, rfl⟩ := HG.out
    exact ⟨rfl, _, (World.drewN_drewN _ _ _).symm⟩

/-- The cells of a parser whose 'symbols' are the given slice, all else zero. -/
noncomputable def pc (s : Option Addr) (l c : Nat) : Array Value := (Try.prog.built 161 [(9, .slice s l c)]).getD #[]
theorem built161 (s : Option Addr) (l c : Nat) : Try.prog.built 161 [(9, .slice s l c)] = some (pc s l c) := by kernel_rfl
theorem pc106 (s : Option Addr) (l c : Nat) : (pc s l c)[106]? = some (.slice s l c) := by kernel_rfl
theorem pc23 (s : Option Addr) (l c : Nat) : (pc s l c)[23]? = some (.int .u64 0) := by kernel_rfl

theorem wp_build161 {o : Oper} {a : Act} {w : World} {K : Act → World → Prop} {Q : Exit → Act → World → Prop} (x : Operand) (ho : o.op = .build 161 #[(9, x)]) (s : Option Addr) (l c : Nat)
    (hx : a.eval x = .slice s l c) (h : K (a.put o.dst (.agg (pc s l c))) w) : o.wp Try.prog a w K Q := by
  refine wp_build 161 _ ho ?_ ?_
  · simp only [List.map_toArray, List.map_cons, List.map_nil, hx, built161]; rfl
  · simp only [List.map_toArray, List.map_cons, List.map_nil, hx, built161, Option.getD_some]; exact h

theorem pcs106 (s : Option Addr) (l c : Nat) (u : Int) : ((pc s l c).setIfInBounds 23 (.int .u64 u))[106]? = some (.slice s l c) := by
  rw [Array.getElem?_setIfInBounds_ne (by omega)]; exact pc106 s l c
theorem pcs23 (s : Option Addr) (l c : Nat) (u : Int) : ((pc s l c).setIfInBounds 23 (.int .u64 u))[23]? = some (.int .u64 u) := by
  have h : 23 < (pc s l c).size := (Array.getElem?_eq_some_iff.1 (pc23 s l c)).1
  rw [Array.getElem?_setIfInBounds_self_of_lt h]

set_option maxRecDepth 100000 in
set_option maxHeartbeats 1000000 in
theorem asks (u k f : Int) (hk1 : 8 ≤ k) (hk2 : k ≤ 17) (w : World) (x y : Bool) (hx : (bits .and .u64 u (feat k) != 0) = x) (hy : (bits .and .u16 f 8 != 0) = y) :
    Calls Try.prog 6 #[.int .u8 k, .int .u16 f, .int .u64 u] w fun e w' => e = .returned (.bool (x || y)) ∧ Below w.heap.size w w' := by
  have HX := Lib.hid hx
  have HY := Lib.hid hy
  clear hx hy
  have p23 := pc23
  have p1 := pcs106
  have p2 := pcs23
  go_enter Try.func6, Try.ntmps6
  go_wp2_with fail
  refine wp_build161 (Operand.tmp 11) rfl (some ⟨w.heap.size, 0, none⟩) 1 1 rfl ?_
  go_simp
  go_wp2_with fail
  refine (needs (w.heap.size + 1) (w.heap.size + 1 + 1) w.heap.size u k f hk1 hk2 _ ?c1 ?c2 ?c3 ?c4 ?c5 x y HX.out HY.out).mono ?_
  case c1 => go_simp
  case c2 => go_simp
  case c3 => go_simp
  case c4 => go_simp
  case c5 => go_simp
  rintro e w' ⟨rfl, n, rfl⟩
  go_wp2_with fail
  go_ret
  exact ⟨rfl, below_drewN (((Below.refl _ _).alloc (Nat.le_refl _) _ |>.alloc (by simp) _).alloc (by simp; omega) _) _⟩

theorem nat8 (n : Nat) : n &&& 8 = 0 ∨ n &&& 8 = 8 := by
  have h := nat_bit 3 n
  have : n / 2 ^ 3 % 2 < 2 := Nat.mod_lt _ (by omega)
  rw [show (8 : Nat) = 2 ^ 3 from rfl, h]
  have h2 : n / 2 ^ 3 % 2 = 0 ∨ n / 2 ^ 3 % 2 = 1 := by omega
  rcases h2 with h2 | h2 <;> rw [h2] <;> simp

theorem or8 (f : Int) (h : 0 ≤ f ∧ f ≤ 65535) : (bits .and .u16 (bits .or .u16 f 8) 8 != 0) = true := by
  obtain ⟨n, rfl⟩ : ∃ n : Nat, f = (n : Int) := ⟨f.toNat, by omega⟩
  have e1 := u16_or_nat n 8 (by omega) (by omega)
  have hlt : n ||| 8 < 2 ^ 16 := Nat.or_lt_two_pow (by omega) (by omega)
  have e2 := u16_and_nat (n ||| 8) 8 (by omega) (by omega)
  have e3 : (n ||| 8) &&& 8 = 8 := by
    rw [Nat.and_or_distrib_right]
    rcases nat8 n with h | h <;> rw [h] <;> rfl
  rw [show (8 : Int) = ((8 : Nat) : Int) from rfl, e1, e2, e3]
  rfl

theorem not8 (f : Int) (h : 0 ≤ f ∧ f ≤ 65535) : (bits .and .u16 (bits .andNot .u16 f 8) 8 != 0) = false := by
  obtain ⟨n, rfl⟩ : ∃ n : Nat, f = (n : Int) := ⟨f.toNat, by omega⟩
  have e1 := u16_andNot_nat n 8 (by omega) (by omega)
  have hlt : n &&& (65535 - 8) ≤ 65527 := Nat.and_le_right
  have e2 := u16_and_nat (n &&& (65535 - 8)) 8 (by omega) (by omega)
  have e3 : (n &&& (65535 - 8)) &&& 8 = 0 := by
    rw [Nat.and_assoc]; simp
  rw [show (8 : Int) = ((8 : Nat) : Int) from rfl, e1, e2, e3]
  rfl

theorem feat_bd (k : Int) : 0 ≤ feat k ∧ feat k < 18446744073709551616 := by unfold feat; repeat' split <;> omega

theorem zero64 (k : Int) : (bits .and .u64 0 (feat k) != 0) = false := by
  have := feat_bd k
  rw [u64_and _ _ (by omega) (by omega) this.1 this.2]
  simp

theorem zero16 : (bits .and .u16 0 8 != 0) = false := by
  rw [u16_and _ _ (by omega) (by omega) (by omega) (by omega)]; rfl

theorem isPrivate (k : Int) (v : Bool) (hv : decide (8 ≤ k ∧ k ≤ 17) = v) (h : 0 ≤ k ∧ k ≤ 255) (w : World) :
    Calls Try.prog 4 #[.int .u8 k] w fun e w' => e = .returned (.bool v) ∧ w = w' := by
  by_cases h1 : 8 ≤ k
  · by_cases h2 : k ≤ 17
    · obtain rfl : v = true := by rw [← hv]; simp; omega
      clear hv
      go_enter Try.func4, Try.ntmps4
      go_wp2
      go_ret
      exact ⟨rfl, rfl⟩
    · obtain rfl : v = false := by rw [← hv]; simp; omega
      clear hv
      go_enter Try.func4, Try.ntmps4
      go_wp2
      go_ret
      exact ⟨rfl, rfl⟩
  · obtain rfl : v = false := by rw [← hv]; simp; omega
    clear hv
    go_enter Try.func4, Try.ntmps4
    go_wp2
    go_ret
    exact ⟨rfl, rfl⟩
end Go.Proofs.Ythhkmejihomdpaa.low
