/-
  Chains of conditionals: the statement walked.
-/
import Derived.Test.YthhlioepgfjknaaTc
namespace Go.Proofs.Ythhlioepgfjknaa.ch
open Go.ChangeShapes Go.WideShapes Go.ChangeAt Go.RowKit Go.Deep
set_option linter.unusedVariables false
set_option linter.unusedSimpArgs false
set_option maxRecDepth 100000
set_option maxHeartbeats 4000000

theorem bytes7 (w : World) (a : Option Addr) (n cs : Nat) (la : Option Addr) (m cl : Nat) : Calls Try.prog 7 #[.slice a n cs, .slice la m cl] w fun e w' => (∃ v, e = .returned (.bool v)) ∧ w = w' := by
  go_enter Try.func7, Try.ntmps7
  go_wp2_with fail
  all_goals
    go_ret
    exact ⟨⟨_, rfl⟩, rfl⟩
theorem law11 (w : World) (a : Option Addr) (n cs : Nat) (s : Nat → Bool) (la : Option Addr) (m cl : Nat) (z : Nat → Int) (hs : IsBools w a n cs s) (hz : IsInts .i32 w la m cl z) : Calls Try.prog 3 #[.slice a n cs, .slice la m cl] w (TrueP w) := by
  have H7 := Lib.hid (bytes7 w a n cs la m cl)
  obtain ⟨_, -, hr⟩ := hs
  obtain ⟨_, -, hl, hwf⟩ := hz
  have HR := Lib.hid hr
  have HL := Lib.hid hl
  have HW := Lib.hid hwf
  clear hr hl hwf
  by_cases h1 : n ≤ 4096
  rotate_left
  · have d1 : decide ((4096 : Int) < (n : Int)) = true := by simp; omega
    clear h1
    go_enter Try.func3, Try.ntmps3
    go_wp2_with fail
    refine H7.out.mono ?_
    rintro e w' ⟨⟨v, rfl⟩, rfl⟩
    cases v
    · go_wp2_with fail
      go_ret
      exact ⟨rfl, Below.refl _ _⟩
    · go_wp2_with fail
      go_ret
      exact ⟨rfl, Below.refl _ _⟩
  have d1 : decide ((4096 : Int) < (n : Int)) = false := by simp; omega
  by_cases h2 : m ≤ 65536
  rotate_left
  · have d2 : decide ((65536 : Int) < (m : Int)) = true := by simp; omega
    clear h1 h2
    go_enter Try.func3, Try.ntmps3
    go_wp2_with fail
    refine H7.out.mono ?_
    rintro e w' ⟨⟨v, rfl⟩, rfl⟩
    cases v
    · go_wp2_with fail
      go_ret
      exact ⟨rfl, Below.refl _ _⟩
    · go_wp2_with fail
      go_ret
      exact ⟨rfl, Below.refl _ _⟩
  have d2 : decide ((65536 : Int) < (m : Int)) = false := by simp; omega
  go_enter Try.func3, Try.ntmps3
  go_wp2_with fail
  refine H7.out.mono ?_
  rintro e w' ⟨⟨v, rfl⟩, rfl⟩
  cases v
  · go_wp2_with fail
    go_ret
    exact ⟨rfl, Below.refl _ _⟩
  clear H7
  have H8 := Lib.hid (build8 w a n cs s la m cl z h1 HR.out HL.out)
  go_upto_region 6 with (go_at_call 8; refine H8.out.mono ?_; rintro e w2 ⟨c, hc, rfl, hN, hG, hhi, hinj, hb⟩; have HC := Lib.hid hc; have HN := Lib.hid hN; have HG := Lib.hid hG; have HI := Lib.hid hhi; have HJ := Lib.hid hinj; have HB := Lib.hid hb; clear hc hN hG hhi hinj hb)
  have hc := HC.out
  subst hc
  have hL : ∀ k, k ≤ 16384 → -536870912 ≤ lca m z k ∧ lca m z k ≤ 536870912 := fun k hk => by
    by_cases hm : m = 0
    · have e : lca m z k = k := if_pos hm
      rw [e]
      omega
    · have h := HW.out (k % m)
      simp [Lit.wf] at h
      have q1 : IntKind.i32.min = -2147483648 := rfl
      have q2 : IntKind.i32.max = 2147483647 := rfl
      have e : lca m z k = z (k % m) / 8 := if_neg hm
      rw [e]
      omega
  have HLL := Lib.hid hL
  have C0 : Hid (∀ w, Nds c s (lca m z) 0 0 w → Calls Try.prog 9 #[ex (c.T 0) (c.b 0) (lc c (lca m z) 0 0), vis] w fun e w' => e = .returned (ex (c.T 0) (c.b 0) (lc c (lca m z) 1048576 0)) ∧ Nds c s (lca m z) 1048576 0 w' ∧ Touch (fun k => ∃ j, 0 ≤ j ∧ j < c.n ∧ k = c.e j) w w') :=
    Lib.hid fun w h => by simpa using chain9 c s (lca m z) 0 (by omega) h1 hL HJ.out w h
  have C1 : Hid (∀ w, Nds c s (lca m z) 1048576 0 w → Calls Try.prog 9 #[ex (c.T 0) (c.b 0) (lc c (lca m z) 1048576 0), vis] w fun e w' => e = .returned (ex (c.T 0) (c.b 0) (lc c (lca m z) 2097152 0)) ∧ Nds c s (lca m z) 2097152 0 w' ∧ Touch (fun k => ∃ j, 0 ≤ j ∧ j < c.n ∧ k = c.e j) w w') :=
    Lib.hid fun w h => by simpa using chain9 c s (lca m z) 1048576 (by omega) h1 hL HJ.out w h
  have CK : Hid (∀ W, Below w.heap.size w W → Nds c s (lca m z) 2097152 0 W → (∀ p, p < c.n → W.cell? ⟨w.heap.size + 1, p, none⟩ = some (.pointer (some ⟨c.e p, 0, none⟩))) →
      Calls Try.prog 11 #[ex (c.T 0) (c.b 0) (lc c (lca m z) 2097152 0), .slice a c.n cs, .slice la m cl, .slice (some ⟨w.heap.size + 1, 0, none⟩) c.n c.n, .int .i32 2097152] W (TrueP W)) := Lib.hid fun W hb hn hg => by
    by_cases h0 : 0 < c.n
    · have e1 : c.T 0 = 78 := if_pos h0
      have e2 : c.b 0 = c.e 0 := if_pos h0
      have e3 : lc c (lca m z) 2097152 0 = lca m z 2 := if_pos h0
      rw [e1, e2, e3]
      exact check11 W a cs s la m cl z c h1 h0 (HR.out.below hb) (HL.out.below hb) (w.heap.size + 1) 2097152 (by omega) hL hn hg
    · have e0 : c.n = 0 := by omega
      have e3 : lc c (lca m z) 2097152 0 = lca m z 0 + 2097152 := by
        have e : lc c (lca m z) 2097152 0 = lca m z (3 * c.n) + 2097152 := if_neg h0
        rw [e, e0]
      rw [e3, e0]
      exact check11_zero W a cs la m cl z (HL.out.below hb) _ _ _ 2097152 (by omega) (hL 0 (by omega))
  have HI2 : Hid (∀ k, (∃ j, 0 ≤ j ∧ j < c.n ∧ k = c.e j) → w.heap.size + 3 < k) := Lib.hid fun k ⟨j, _, h2, h3⟩ => by rw [h3]; exact HI.out j h2
  clear hL h2 d2
  generalize c.T 0 = T at *
  generalize c.b 0 = b at *
  generalize lc c (lca m z) 0 0 = l0 at *
  generalize lc c (lca m z) 1048576 0 = l1 at *
  generalize lc c (lca m z) 2097152 0 = l2 at *
  have HN0 := Lib.hid (HN.out.keep (Touch.of_below ((Below.refl w2.heap.size w2).alloc (Nat.le_refl _) (Obj.cells #[Value.iface T (Value.pointer (some { block := b, off := 0 })), Value.int IntKind.i32 l0] 30)) (fun _ => False)) (fun _ _ _ h => h))
  have HT0 := Lib.hid ((Touch.refl (fun k => ∃ j, 0 ≤ j ∧ j < c.n ∧ k = c.e j) w2).alloc (Obj.cells #[Value.iface T (Value.pointer (some { block := b, off := 0 })), Value.int IntKind.i32 l0] 30))
  have k0 : (w2.alloc (Obj.cells #[Value.iface T (Value.pointer (some { block := b, off := 0 })), Value.int IntKind.i32 l0] 30)).cell? ⟨w2.heap.size, 0, none⟩ = some (.iface T (.pointer (some ⟨b, 0, none⟩))) := by simp
  have k1 : (w2.alloc (Obj.cells #[Value.iface T (Value.pointer (some { block := b, off := 0 })), Value.int IntKind.i32 l0] 30)).cell? ⟨w2.heap.size, 1, none⟩ = some (.int .i32 l0) := by simp
  generalize w2.alloc (Obj.cells #[Value.iface T (Value.pointer (some { block := b, off := 0 })), Value.int IntKind.i32 l0] 30) = W2 at *
  go_upto_region 7 with (go_at_call 9; refine (C0.out _ HN0.out).mono ?_; rintro e w3 ⟨rfl, hn3, ht3⟩; have HN3 := Lib.hid hn3; have HT3 := Lib.hid (HT0.out.trans ht3); clear hn3 ht3)
  clear k0 k1
  have HN1 := Lib.hid (HN3.out.keep (Touch.of_below ((Below.refl w3.heap.size w3).alloc (Nat.le_refl _) (Obj.cells #[Value.iface T (Value.pointer (some { block := b, off := 0 })), Value.int IntKind.i32 l1] 30)) (fun _ => False)) (fun _ _ _ h => h))
  have HT1 := Lib.hid (HT3.out.alloc (Obj.cells #[Value.iface T (Value.pointer (some { block := b, off := 0 })), Value.int IntKind.i32 l1] 30))
  have k0 : (w3.alloc (Obj.cells #[Value.iface T (Value.pointer (some { block := b, off := 0 })), Value.int IntKind.i32 l1] 30)).cell? ⟨w3.heap.size, 0, none⟩ = some (.iface T (.pointer (some ⟨b, 0, none⟩))) := by simp
  have k1 : (w3.alloc (Obj.cells #[Value.iface T (Value.pointer (some { block := b, off := 0 })), Value.int IntKind.i32 l1] 30)).cell? ⟨w3.heap.size, 1, none⟩ = some (.int .i32 l1) := by simp
  generalize w3.alloc (Obj.cells #[Value.iface T (Value.pointer (some { block := b, off := 0 })), Value.int IntKind.i32 l1] 30) = W3 at *
  go_upto_region 8 with (go_at_call 9; refine (C1.out _ HN1.out).mono ?_; rintro e w4 ⟨rfl, hn3, ht3⟩; have HN4 := Lib.hid hn3; have HT4 := Lib.hid (HT1.out.trans ht3); clear hn3 ht3)
  clear k0 k1
  have HN2 := Lib.hid (HN4.out.keep (Touch.of_below ((Below.refl w4.heap.size w4).alloc (Nat.le_refl _) (Obj.cells #[Value.iface T (Value.pointer (some { block := b, off := 0 })), Value.int IntKind.i32 l2] 30)) (fun _ => False)) (fun _ _ _ h => h))
  have HT2 := Lib.hid (HT4.out.alloc (Obj.cells #[Value.iface T (Value.pointer (some { block := b, off := 0 })), Value.int IntKind.i32 l2] 30))
  have k0 : (w4.alloc (Obj.cells #[Value.iface T (Value.pointer (some { block := b, off := 0 })), Value.int IntKind.i32 l2] 30)).cell? ⟨w4.heap.size, 0, none⟩ = some (.iface T (.pointer (some ⟨b, 0, none⟩))) := by simp
  have k1 : (w4.alloc (Obj.cells #[Value.iface T (Value.pointer (some { block := b, off := 0 })), Value.int IntKind.i32 l2] 30)).cell? ⟨w4.heap.size, 1, none⟩ = some (.int .i32 l2) := by simp
  generalize w4.alloc (Obj.cells #[Value.iface T (Value.pointer (some { block := b, off := 0 })), Value.int IntKind.i32 l2] 30) = W4 at *
  have HBB : Hid (Below w.heap.size w W4) := Lib.hid (HB.out.trans (HT2.out.below HB.out.size fun k hk => by have := HI2.out k hk; omega))
  have HGG : Hid (∀ p, p < c.n → W4.cell? ⟨w.heap.size + 1, p, none⟩ = some (.pointer (some ⟨c.e p, 0, none⟩))) := Lib.hid fun p hp => RowG.cell (HG.out.of_block (HT2.out.block _ HG.out.lt fun hk => by have := HI2.out _ hk; omega)) hp
  go_wp2_with (go_at_call 11; refine (CK.out _ HBB.out HN2.out HGG.out).mono ?_; rintro e w5 ⟨rfl, hb5⟩)
  go_ret
  exact ⟨rfl, HBB.out.trans (hb5.mono HBB.out.size)⟩
end Go.Proofs.Ythhlioepgfjknaa.ch
