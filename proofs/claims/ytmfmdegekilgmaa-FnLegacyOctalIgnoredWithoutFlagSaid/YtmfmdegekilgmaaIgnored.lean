/-
  Proved: for every slice of uint8 FnLegacyOctalIgnoredWithoutFlag returns true and leaves its argument as it was. No condition.
-/
import Derived.Test.YtmfmdegekilgmaaRows
import Derived.WalkKit
import Derived.ProofKit
import Derived.OpenShut
import Derived.ShutString
import Derived.ChangeOld
import Derived.Below
import Derived.Test.YtmfmdegekilgmaaLo
namespace Go.Proofs.Ytmfmdegekilgmaa.fnLegacyOctalIgnoredWithoutFlag
open Go.ChangeShapes Go.WideShapes Go.ChangeAt Go.RowKit
open Go.ChangeMaps (open_string shut_string)
set_option linter.unusedVariables false

theorem own : ownKnob Try.prog.godebug = none := by kernel_rfl
theorem laidOut : laidOutB Try.prog = true := by kernel_rfl

/-- WHAT THE WALK IS TOLD OF A SLICE OF INTEGERS THAT CAME IN: it is nil; or it leads to a row of 'cap' cells, the numbers 'zs' (the first 'len' are its elements, the rest its spare room), each fitting its kind. -/
def IsRow (k : IntKind) (w : World) (a : Option Addr) (len cap : Nat) (zs : List Int) : Prop :=
  (a = none ∧ len = 0 ∧ cap = 0 ∧ zs = []) ∨
  ∃ x, a = some x ∧ len ≤ cap ∧ cap ≤ maxLen ∧ zs.length = cap ∧ (∀ i, i < zs.length → w.cell? (x.add i) = some (.int k (zs.getD i 0))) ∧ ∀ n ∈ zs, (Lit.int k n).wf = true

open Go.Proofs.Ytmfmdegekilgmaa.lo Go.Deep

theorem bytes_yes (a : Option Addr) (len cap : Nat) (h : len ≤ 1048576) (w : World) : Calls Try.prog 5 #[.slice a len cap] w fun e w' => e = .returned (.bool true) ∧ w = w' := by
  go_enter Try.func5, Try.ntmps5
  go_wp2
  go_ret
  exact ⟨rfl, rfl⟩
theorem bytes_no (a : Option Addr) (len cap : Nat) (h : 1048576 < len) (w : World) : Calls Try.prog 5 #[.slice a len cap] w fun e w' => e = .returned (.bool false) ∧ w = w' := by
  go_enter Try.func5, Try.ntmps5
  go_wp2
  go_ret
  exact ⟨rfl, rfl⟩

def z256 : Array Value := Array.replicate 256 (.pointer none)
theorem zero28 (w : World) : (zeroValue 28).run Try.prog w = .ok (.agg z256) w := by kernel_rfl
/-- Block b is the array of 256 node pointers. -/
def PRow (w : World) (b : Nat) : Prop := ∃ o : Nat → Option Addr, RowG w b 28 256 (fun p => .pointer (o p))
theorem PRow.new (w : World) : PRow (w.alloc (.cells z256 28)) w.heap.size := ⟨fun _ => none, by
  have h := RowG.made w 28 z256 (fun _ => .pointer none) (fun p hp => by
    have hp' : p < 256 := by simpa [z256] using hp
    simp [z256, hp'])
  have hs : z256.size = 256 := by simp [z256]
  rw [hs] at h
  exact h⟩
theorem PRow.set {w : World} {b : Nat} (h : PRow w b) (p : Nat) (q : Option Addr) : PRow (w.setCell ⟨b, p, none⟩ (.pointer q)) b := by
  obtain ⟨o, h⟩ := h
  refine ⟨fun r => if r = p then q else o r, (h.set p (.pointer q)).ext fun r _ => ?_⟩
  by_cases e : r = p
  · simp [e]
  · simp [e]

set_option maxRecDepth 100000 in
set_option maxHeartbeats 4000000 in
theorem main (w : World) (x : Addr) (len cap : Nat) (V : Nat → Int) (hl : len ≤ 65536) (hc : Cells w x len fun i => Value.int .u8 (V i)) (hV : ∀ i, i < len → 0 ≤ V i ∧ V i ≤ 255) :
    Calls Try.prog 3 #[.slice (some x) len cap] w fun e w' => e = .returned (.bool true) ∧ Below w.heap.size w w' := by
  have HC := Lib.hid hc
  have HV := Lib.hid hV
  clear hc hV
  have HB := Lib.hid (bytes_yes (some x) len cap (by omega))
  have hz28 := zero28
  go_enter Try.func3, Try.ntmps3
  go_wp2_with fail
  refine (HB.out _).mono ?_
  rintro e w' ⟨rfl, rfl⟩
  go_wp2_with fail
  refine (clone w x len cap V (by omega) HC.out).mono ?_
  rintro e w1 ⟨rfl, hw1⟩
  have B1 := Lib.hid (show Below w.heap.size w w1 by rw [← hw1]; exact (Below.refl _ _).alloc (Nat.le_refl _) _)
  have C1 := Lib.hid (show Cells w1 ⟨w.heap.size, 0, none⟩ len fun i => Value.int .u8 (V i) by rw [← hw1]; exact Cells.made w len (fun i => Value.int .u8 (V i)) 5)
  clear hw1
  go_wp2_with fail
  refine (newP w1 false).mono ?_
  rintro e w2 ⟨g, rfl, hg, hp, hb2⟩
  have HP := Lib.hid hp
  have B2 := Lib.hid hb2
  clear hg hp hb2
  go_wp2_with fail
  have P3 := Lib.hid (PRow.new w2)
  have B3 := Lib.hid (show Below w2.heap.size w2 (w2.alloc (.cells z256 28)) from (Below.refl _ _).alloc (Nat.le_refl _) _)
  generalize w2.alloc (.cells z256 28) = w3 at *
  clear hz28
  go_loopw [5] (fun v wr => ∃ k : Nat, k ≤ 256 ∧ v = .int .i64 k ∧ PRow wr w2.heap.size ∧ Below w2.heap.size w2 wr) (fun v _ => 256 - (intOf v).toNat)
  case atStart => exact ⟨0, by omega, rfl, P3.out, B3.out⟩
  case round =>
    obtain ⟨k, hk, rfl, hR, hB⟩ := hrel
    have HR := Lib.hid hR
    have HBl := Lib.hid hB
    clear hR hB
    by_cases hlt : k < 256
    · go_wp2_with fail
      refine (newN _ _).mono ?_
      rintro e w4 ⟨rfl, hw4⟩
      have R4 := Lib.hid (show PRow w4 w2.heap.size by rw [← hw4]; obtain ⟨o, h⟩ := HR.out; exact ⟨o, h.alloc _⟩)
      have B4 := Lib.hid (show Below w2.heap.size w2 w4 by rw [← hw4]; exact HBl.out.alloc HBl.out.size _)
      clear hw4
      obtain ⟨o, hr⟩ := R4.out
      have c1 := hr.cell hlt
      have c2 := hr.frozen k
      clear hr
      go_wp2_with fail
      go_roundw
      case rel => exact ⟨k + 1, by omega, by go_num, R4.out.set k _, B4.out.setCell (by exact Nat.le_refl _) _⟩
      case measure => simp [intOf]; omega
    · obtain rfl : k = 256 := by omega
      rw [show ((256 : Nat) : Int) = 256 from rfl]
      have PW := Lib.hid (HP.out.below HBl.out)
      obtain ⟨o, hr⟩ := HR.out
      have RW := Lib.hid hr
      clear hr
      go_wp2_with fail
      go_loop [6] (fun v => ∃ j : Nat, j ≤ len ∧ v = .int .i64 j) (fun v => len - (intOf v).toNat)
      case atStart => exact ⟨0, by omega, rfl⟩
      case round =>
        obtain ⟨j, hj, rfl⟩ := hrel
        by_cases hlt2 : j < len
        · have hv := HV.out j hlt2
          have c1 : wr.cell? ⟨w.heap.size, j, none⟩ = some (.int .u8 (V j)) := by
            have h := ((C1.out.below B2.out).below HBl.out).2 j hlt2
            simpa using h
          obtain ⟨m, hm⟩ : ∃ m : Nat, V j = (m : Int) := ⟨(V j).toNat, by omega⟩
          rw [hm] at c1 hv
          have hm2 : m < 256 := by omega
          have c2 := RW.out.cell hm2
          clear hm
          go_wp2_with fail
          refine (check_no _ g _ none PW.out).mono ?_
          rintro e w' ⟨rfl, rfl⟩
          go_wp2_with fail
          refine (isnil _ g false none PW.out).mono ?_
          rintro e w' ⟨rfl, rfl⟩
          go_wp2_with fail
          go_round
          case rel => exact ⟨j + 1, by omega, by go_num⟩
          case measure => simp [intOf]; omega
        · obtain rfl : j = len := by omega
          go_wp2_with fail
          refine (count0 _ g false PW.out).mono ?_
          rintro e w' ⟨rfl, rfl⟩
          go_wp2_with fail
          go_ret
          exact ⟨rfl, (B1.out.trans (B2.out.mono B1.out.size)).trans (HBl.out.mono (Nat.le_trans B1.out.size B2.out.size))⟩

set_option maxRecDepth 100000 in
set_option maxHeartbeats 4000000 in
theorem main0 (w : World) : Calls Try.prog 3 #[.slice none 0 0] w fun e w' => e = .returned (.bool true) ∧ Below w.heap.size w w' := by
  have HB := Lib.hid (bytes_yes none 0 0 (by omega))
  have hz28 := zero28
  go_enter Try.func3, Try.ntmps3
  go_wp2_with fail
  refine (HB.out _).mono ?_
  rintro e w' ⟨rfl, rfl⟩
  go_wp2_with fail
  refine (clone_nil w).mono ?_
  rintro e w1 ⟨rfl, hw1⟩
  have B1 := Lib.hid (show Below w.heap.size w w1 by rw [← hw1]; exact Below.refl _ _)
  clear hw1
  go_wp2_with fail
  refine (newP w1 false).mono ?_
  rintro e w2 ⟨g, rfl, hg, hp, hb2⟩
  have HP := Lib.hid hp
  have B2 := Lib.hid hb2
  clear hg hp hb2
  go_wp2_with fail
  have P3 := Lib.hid (PRow.new w2)
  have B3 := Lib.hid (show Below w2.heap.size w2 (w2.alloc (.cells z256 28)) from (Below.refl _ _).alloc (Nat.le_refl _) _)
  generalize w2.alloc (.cells z256 28) = w3 at *
  clear hz28
  go_loopw [5] (fun v wr => ∃ k : Nat, k ≤ 256 ∧ v = .int .i64 k ∧ PRow wr w2.heap.size ∧ Below w2.heap.size w2 wr) (fun v _ => 256 - (intOf v).toNat)
  case atStart => exact ⟨0, by omega, rfl, P3.out, B3.out⟩
  case round =>
    obtain ⟨k, hk, rfl, hR, hB⟩ := hrel
    have HR := Lib.hid hR
    have HBl := Lib.hid hB
    clear hR hB
    by_cases hlt : k < 256
    · go_wp2_with fail
      refine (newN _ _).mono ?_
      rintro e w4 ⟨rfl, hw4⟩
      have R4 := Lib.hid (show PRow w4 w2.heap.size by rw [← hw4]; obtain ⟨o, h⟩ := HR.out; exact ⟨o, h.alloc _⟩)
      have B4 := Lib.hid (show Below w2.heap.size w2 w4 by rw [← hw4]; exact HBl.out.alloc HBl.out.size _)
      clear hw4
      obtain ⟨o, hr⟩ := R4.out
      have c1 := hr.cell hlt
      have c2 := hr.frozen k
      clear hr
      go_wp2_with fail
      go_roundw
      case rel => exact ⟨k + 1, by omega, by go_num, R4.out.set k _, B4.out.setCell (by exact Nat.le_refl _) _⟩
      case measure => simp [intOf]; omega
    · obtain rfl : k = 256 := by omega
      rw [show ((256 : Nat) : Int) = 256 from rfl]
      have PW := Lib.hid (HP.out.below HBl.out)
      obtain ⟨o, hr⟩ := HR.out
      have RW := Lib.hid hr
      clear hr
      go_wp2_with fail
      go_loop [6] (fun v => ∃ j : Nat, j ≤ 0 ∧ v = .int .i64 j) (fun v => 0 - (intOf v).toNat)
      case atStart => exact ⟨0, by omega, rfl⟩
      case round =>
        obtain ⟨j, hj, rfl⟩ := hrel
        obtain rfl : j = 0 := by omega
        · go_wp2_with fail
          refine (count0 _ g false PW.out).mono ?_
          rintro e w' ⟨rfl, rfl⟩
          go_wp2_with fail
          go_ret
          exact ⟨rfl, (B1.out.trans (B2.out.mono B1.out.size)).trans (HBl.out.mono (Nat.le_trans B1.out.size B2.out.size))⟩

theorem walk (a0 : Option Addr) (len0 cap0 : Nat) (z0 : List Int) (w : World) (w0 : IsRow .u8 w a0 len0 cap0 z0) :
    Calls Try.prog 3 #[.slice a0 len0 cap0] w fun e w' => e = .returned (.bool true) ∧ Below w.heap.size w w' := by
  rcases w0 with ⟨rfl, rfl, rfl, rfl⟩ | ⟨x, rfl, hl, hm, hz, hcell, hwf⟩
  · exact main0 w
  by_cases hbig : 1048576 < len0
  · have HB := Lib.hid (bytes_no (some x) len0 cap0 hbig)
    go_enter Try.func3, Try.ntmps3
    go_wp2_with (go_at_call 5; refine (HB.out _).mono ?_; rintro e w' ⟨rfl, rfl⟩)
    go_ret
    exact ⟨rfl, Below.refl _ _⟩
  by_cases hmid : 65536 < len0
  · have HB := Lib.hid (bytes_yes (some x) len0 cap0 (by omega))
    clear hcell hwf
    go_enter Try.func3, Try.ntmps3
    go_wp2_with (go_at_call 5; refine (HB.out _).mono ?_; rintro e w' ⟨rfl, rfl⟩)
    go_ret
    exact ⟨rfl, Below.refl _ _⟩
  refine main w x len0 cap0 (fun i => z0.getD i 0) (by omega) ?_ ?_
  · by_cases h0 : len0 = 0
    · exact ⟨fun h => by omega, fun i hi => by omega⟩
    · obtain ⟨b, off, rfl, hc⟩ := ints_at hcell (by omega)
      exact ⟨fun _ => rfl, fun i hi => hc i (by omega)⟩
  · intro i hi
    have hm : z0.getD i 0 ∈ z0 := by
      rw [List.getD_eq_getElem?_getD, List.getElem?_eq_getElem (by omega), Option.getD_some]
      exact List.getElem_mem _
    simpa [Lit.wf, IntKind.min, IntKind.max, IntKind.signed, IntKind.bits] using hwf _ hm

/-! ### THE ROW's STEP: WRITTEN OUT: LEAVE IT -/
set_option maxRecDepth 100000 in
theorem lifted (os : Os) (started : os.Started) (H : Type) (enc : TypeId × Value → H) :
    ReturnsInHanded {} Try.checked os 3 .any (Rows.fnLegacyOctalIgnoredWithoutFlagSpec.pre6 enc Try.prog Try.f3 Rows.fnLegacyOctalIgnoredWithoutFlagRow.domain false) (Rows.fnLegacyOctalIgnoredWithoutFlagSpec.post enc Try.prog Try.f3 false true false false) := by
  refine returnsInHanded_of_change (C := Try.checked) own started (by kernel_rfl) Try.func3
    (ChangeSpec.witness6 (enc := enc) (C := Try.checked) false ⟨#[], #[.slice none 0 0], []⟩ 8 (by kernel_rfl) (by kernel_rfl) (by kernel_rfl) (by kernel_rfl)) ?_
  intro W base args ds gs before hval0 hW hcnd _
  have hval : ∀ (j : Nat) t v, Try.f3.params[j]? = some t → args[j]? = some v → Value.okWide Try.prog W .any base t v := hval0
  have hW' := hW
  obtain ⟨p, q, hA0, hV, rfl, hfz, hnd⟩ := hW
  have hA : DataW.TrodAll enc Try.prog W 0 (fun _ => true) true Try.f3.params.toList args.toList ds p := hA0
  rw [Try.params3] at hA hval
  obtain ⟨v0, vs0, d0, ds0, p0, q0, hargs, rfl, rfl, h0, r0⟩ := trodAll_cons hA
  obtain ⟨rfl, rfl, rfl⟩ := trodAll_nil r0
  obtain rfl : args = #[v0] := by cases args; simp_all
  obtain ⟨rfl, rfl⟩ := trodVars_none hV
  obtain ⟨a0, len0, cap0, rfl⟩ := okWide_slice Try.underlying22 (hval 0 22 v0 rfl rfl)
  have k0 := h0
  have lt0 : ∀ x ∈ p0, x.block < W.heap.size := by obtain ⟨m, hm⟩ := k0; exact DataW.trod_lt m _ _ _ hm
  obtain ⟨z0, w0⟩ : ∃ zs, IsRow .u8 W a0 len0 cap0 zs := by
    obtain ⟨fuel, hf⟩ := h0
    rcases open_ints Try.underlying22 Try.underlying5 (by kernel_rfl) hf with ⟨hcs, _⟩ | ⟨x, l, c, zs, hcs, _, hl, hm, hz, _, hcell, hwz⟩
    · simp [Value.cells] at hcs
      obtain ⟨rfl, rfl, rfl⟩ := hcs
      exact ⟨[], .inl ⟨rfl, rfl, rfl, rfl⟩⟩
    · simp [Value.cells] at hcs
      obtain ⟨rfl, rfl, rfl⟩ := hcs
      exact ⟨zs, .inr ⟨_, rfl, hl, hm, by simpa using hz, hcell, hwz⟩⟩
  clear hA0 hval0
  refine (walk a0 len0 cap0 z0 W w0).mono fun e W' ⟨he, bel⟩ => ?_
  subst he
  exact ⟨_, rfl, _, _, _, [], _, [], hW', trodAll_mk1 (shut_bool Try.underlying4 _), (trodAll_cons_mk (Below.trod laidOut (by kernel_rfl) (of_decide_eq_true (by kernel_rfl)) k0 bel lt0) trodAll_mk0), rfl, bel.frame _, fun h => by cases h⟩

theorem over : Rows.fnLegacyOctalIgnoredWithoutFlagRow.holds Try.pinned (OpenSpec.ofChange Rows.fnLegacyOctalIgnoredWithoutFlagSpec) :=
  OpenClaim.holds_of_wide 3 Try.f3 rfl rfl rfl rfl rfl rfl rfl ⟨rfl, rfl, rfl, rfl, rfl⟩ rfl rfl rfl rfl rfl (by kernel_rfl) Try.func3 (by kernel_rfl)
    (of_decide_eq_true (by kernel_rfl)) (by unfold Func.isWrapper; first | (rw [if_pos (by decide +kernel)]; kernel_rfl) | (rw [if_neg (by decide +kernel)]; exact ⟨rfl, rfl⟩))
    (fun os started H enc _ => lifted os started H enc)

/-- ████ THE STATEMENT ████ -/
theorem proved : Rows.FnLegacyOctalIgnoredWithoutFlagSaid := over
#print axioms proved
end Go.Proofs.Ytmfmdegekilgmaa.fnLegacyOctalIgnoredWithoutFlag
