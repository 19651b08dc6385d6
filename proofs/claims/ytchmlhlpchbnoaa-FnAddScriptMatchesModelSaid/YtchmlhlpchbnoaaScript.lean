/-
  Proved: for every slice of int32 FnAddScriptMatchesModel returns true and leaves its argument as it was. No condition.
-/
import Derived.Test.YtchmlhlpchbnoaaRows
import Derived.WalkKit
import Derived.ProofKit
import Derived.OpenShut
import Derived.ShutString
import Derived.ChangeOld
import Derived.Below
import Derived.Test.YtchmlhlpchbnoaaWg2
import Derived.Test.YtchmlhlpchbnoaaCl
namespace Go.Proofs.Ytchmlhlpchbnoaa.fnAddScriptMatchesModel
open Go.ChangeShapes Go.WideShapes Go.ChangeAt Go.RowKit
open Go.ChangeMaps (open_string shut_string)
set_option linter.unusedVariables false

theorem own : ownKnob Try.prog.godebug = none := by kernel_rfl
theorem laidOut : laidOutB Try.prog = true := by kernel_rfl

/-- WHAT THE WALK IS TOLD OF A SLICE OF INTEGERS THAT CAME IN: it is nil; or it leads to a row of 'cap' cells, the numbers 'zs' (the first 'len' are its elements, the rest its spare room), each fitting its kind. -/
def IsRow (k : IntKind) (w : World) (a : Option Addr) (len cap : Nat) (zs : List Int) : Prop :=
  (a = none ∧ len = 0 ∧ cap = 0 ∧ zs = []) ∨
  ∃ x, a = some x ∧ len ≤ cap ∧ cap ≤ maxLen ∧ zs.length = cap ∧ (∀ i, i < zs.length → w.cell? (x.add i) = some (.int k (zs.getD i 0))) ∧ ∀ n ∈ zs, (Lit.int k n).wf = true

open Go.Proofs.Ytchmlhlpchbnoaa.wg Go.Proofs.Ytchmlhlpchbnoaa.cl

theorem bytes_yes (a : Option Addr) (len cap : Nat) (h : len ≤ 1048576) (w : World) : Calls Try.prog 13 #[.slice a len cap] w fun e w' => e = .returned (.bool true) ∧ w = w' := by
  go_enter Try.func13, Try.ntmps13
  go_wp2
  go_ret
  exact ⟨rfl, rfl⟩
theorem bytes_no (a : Option Addr) (len cap : Nat) (h : 1048576 < len) (w : World) : Calls Try.prog 13 #[.slice a len cap] w fun e w' => e = .returned (.bool false) ∧ w = w' := by
  go_enter Try.func13, Try.ntmps13
  go_wp2
  go_ret
  exact ⟨rfl, rfl⟩

/-- The running sum. -/
def S (V : Nat → Int) : Nat → Int
  | 0 => 0
  | k + 1 => S V k + V k

/-- One Add of the script: the counter is the new sum; a token is pending exactly when it is nought. -/
def Step (w0 : World) (b c : Nat) (n : Int) (e : Ending) (w : World) : Prop := e = .returned (.tuple #[]) ∧ WG w0 w b c n (if n = 0 then 1 else 0)
theorem add_step (w0 w : World) (b c : Nat) (n d : Int) (h : WG w0 w b c n 0) (hlo : 0 ≤ n + d) (hhi : n + d ≤ 2147483647) :
    Calls Try.prog 8 #[.pointer (some ⟨b, 0, none⟩), .int .i32 d] w (Step w0 b c (n + d)) := by
  by_cases h0 : n + d = 0
  · refine (add_wg0 w0 w b c n d h h0).mono ?_
    rintro e w' ⟨rfl, h2⟩
    refine ⟨rfl, ?_⟩
    rw [if_pos h0, h0]
    exact h2
  · refine (add_wg w0 w b c n d h (by omega) hhi).mono ?_
    rintro e w' ⟨rfl, h2⟩
    refine ⟨rfl, ?_⟩
    rw [if_neg h0]
    exact h2

/-- The second loop's state, behind k Adds. -/
def Run (w1 : World) (b c : Nat) (V : Nat → Int) (k : Nat) (w : World) : Prop := WG w1 w b c (S V k) 0

set_option maxHeartbeats 2000000 in
theorem main (w : World) (x : Addr) (len cap : Nat) (V : Nat → Int) (hl : len ≤ 65536) (hc : Cells w x len fun i => Value.int .i32 (V i))
    (hV : ∀ i, i < len → -2147483648 ≤ V i ∧ V i ≤ 2147483647) :
    Calls Try.prog 6 #[.slice (some x) len cap] w fun e w' => e = .returned (.bool true) ∧ Below w.heap.size w w' := by
  obtain ⟨b, off, sp⟩ := x
  have HC := Lib.hid hc
  have HV := Lib.hid hV
  clear hc hV
  have HB := Lib.hid (bytes_yes (some ⟨b, off, sp⟩) len cap (by omega))
  go_enter Try.func6, Try.ntmps6
  go_wp2_with (go_at_call 13; refine (HB.out _).mono ?_; rintro e w' ⟨rfl, rfl⟩)
  go_loop [3, 4] (fun s i => ∃ k : Nat, k ≤ len ∧ i = .int .i64 k ∧ s = .int .i64 (S V k) ∧ ∀ j, j ≤ k → 0 ≤ S V j ∧ S V j ≤ 2147483647) (fun _ i => len - (intOf i).toNat)
  case atStart => exact ⟨0, by omega, rfl, rfl, fun j hj => by (obtain rfl : j = 0 := by omega); simp [S]⟩
  case round =>
    obtain ⟨k, hk, rfl, rfl, hS⟩ := hrel
    have HS := Lib.hid hS
    have hb := hS k (by omega)
    clear hS
    by_cases hlt : k < len
    · have hv := HV.out k hlt
      obtain rfl : sp = none := HC.out.1 (by omega)
      have c1 : w.cell? ⟨b, off + k, none⟩ = some (.int .i32 (V k)) := HC.out.2 k hlt
      by_cases h1 : S V k + V k < 0
      · go_wp2_with fail
        go_ret
        exact ⟨rfl, Below.refl _ _⟩
      by_cases h2 : 2147483647 < S V k + V k
      · go_wp2_with fail
        go_ret
        exact ⟨rfl, Below.refl _ _⟩
      go_wp2_with fail
      go_round
      case rel =>
        refine ⟨k + 1, by omega, by go_num, rfl, fun j hj => ?_⟩
        by_cases hj' : j ≤ k
        · exact HS.out j hj'
        · obtain rfl : j = k + 1 := by omega
          show 0 ≤ S V k + V k ∧ _
          exact ⟨by omega, by show S V k + V k ≤ _; omega⟩
      case measure => simp [intOf]; omega
    · obtain rfl : k = len := by omega
      go_wp2_with fail
      refine (clone w ⟨b, off, sp⟩ k cap V (by omega) HC.out).mono ?_
      rintro e w1 ⟨rfl, hw1⟩
      have hb1 : Below w.heap.size w w1 := by rw [← hw1]; exact (Below.refl _ _).alloc (Nat.le_refl _) _
      have hc1 : Cells w1 ⟨w.heap.size, 0, none⟩ k fun i => Value.int .i32 (V i) := by rw [← hw1]; exact Cells.made w k (fun i => Value.int .i32 (V i)) 21
      have HB1 := Lib.hid hb1
      have HC1 := Lib.hid hc1
      clear hw1 hb1 hc1
      go_wp2_with fail
      refine (make_wg w1 w1 (Below.refl _ _)).mono ?_
      rintro e w2 ⟨p, c, rfl, hw⟩
      have H1 := Lib.hid hw
      clear hw
      go_wp2_with fail
      go_loopw [3, 6] (fun s i wr => ∃ j : Nat, j ≤ k ∧ i = .int .i64 j ∧ s = .int .i64 (S V j) ∧ Run w1 p c V j wr) (fun _ i _ => k - (intOf i).toNat)
      case atStart => exact ⟨0, by omega, rfl, rfl, H1.out⟩
      case round =>
        obtain ⟨j, hj, rfl, rfl, hR⟩ := hrel
        have HR := Lib.hid hR
        clear hR
        by_cases hlt : j < k
        · have hv := HV.out j hlt
          have hs1 := HS.out j (by omega)
          have hs2 : 0 ≤ S V j + V j ∧ S V j + V j ≤ 2147483647 := HS.out (j + 1) (by omega)
          have hcc : Cells wr ⟨w.heap.size, 0, none⟩ k fun i => Value.int .i32 (V i) := HC1.out.below HR.out.2.2.2.2.2
          have c2 : wr.cell? ⟨w.heap.size, j, none⟩ = some (.int .i32 (V j)) := by simpa using hcc.2 j hlt
          clear hcc
          go_wp2_with fail
          refine (add_step w1 _ p c (S V j) (V j) HR.out hs2.1 hs2.2).mono ?_
          rintro e w3 ⟨rfl, h3⟩
          have H3 := Lib.hid h3
          clear h3
          have hcc : Cells w3 ⟨w.heap.size, 0, none⟩ k fun i => Value.int .i32 (V i) := HC1.out.below H3.out.2.2.2.2.2
          have c3 : w3.cell? ⟨w.heap.size, j, none⟩ = some (.int .i32 (V j)) := by simpa using hcc.2 j hlt
          clear hcc
          by_cases h0 : S V j + V j = 0
          · have H4 : Hid (WG w1 w3 p c (S V j + V j) 1) := Lib.hid (by have := H3.out; rw [if_pos h0] at this; exact this)
            have e0 : (S V j + V j == 0) = true := by simpa using h0
            have H0 := Lib.hid h0
            clear h0
            go_wp2_with fail
            refine (counter_wg w1 _ p c _ _ H4.out).mono ?_
            rintro e w' ⟨rfl, rfl⟩
            go_wp2_with fail
            refine (pending_wg w1 _ p c _ _ H4.out).mono ?_
            rintro e w' ⟨rfl, rfl⟩
            go_wp2_with fail
            refine (wait_wg w1 _ p c _ H4.out).mono ?_
            rintro e w5 ⟨rfl, h5⟩
            have H5 := Lib.hid h5
            clear h5
            go_wp2_with fail
            refine (pending_wg w1 _ p c _ _ H5.out).mono ?_
            rintro e w' ⟨rfl, rfl⟩
            go_wp2_with fail
            go_roundw
            case rel => exact ⟨j + 1, by omega, by go_num, rfl, H5.out⟩
            case measure => simp [intOf]; omega
          · have H4 : Hid (WG w1 w3 p c (S V j + V j) 0) := Lib.hid (by have := H3.out; rw [if_neg h0] at this; exact this)
            have e0 : (S V j + V j == 0) = false := by simpa using h0
            clear h0
            go_wp2_with fail
            refine (counter_wg w1 _ p c _ _ H4.out).mono ?_
            rintro e w' ⟨rfl, rfl⟩
            go_wp2_with fail
            refine (pending_wg w1 _ p c _ _ H4.out).mono ?_
            rintro e w' ⟨rfl, rfl⟩
            go_wp2_with fail
            go_roundw
            case rel => exact ⟨j + 1, by omega, by go_num, rfl, H4.out⟩
            case measure => simp [intOf]; omega
        · obtain rfl : j = k := by omega
          go_wp2_with fail
          go_ret
          exact ⟨rfl, HB1.out.trans (HR.out.2.2.2.2.2.mono HB1.out.size)⟩

set_option maxHeartbeats 2000000 in
theorem none_walk (w : World) : Calls Try.prog 6 #[.slice none 0 0] w fun e w' => e = .returned (.bool true) ∧ Below w.heap.size w w' := by
  have HB := Lib.hid (bytes_yes none 0 0 (by omega))
  go_enter Try.func6, Try.ntmps6
  go_wp2_with (go_at_call 13; refine (HB.out _).mono ?_; rintro e w' ⟨rfl, rfl⟩)
  go_loop [3, 4] (fun s i => s = .int .i64 0 ∧ i = .int .i64 0) (fun _ _ => 0)
  case atStart => exact ⟨rfl, rfl⟩
  case round =>
    obtain ⟨rfl, rfl⟩ := hrel
    go_wp2_with fail
    refine (clone_nil w).mono ?_
    rintro e w' ⟨rfl, rfl⟩
    go_wp2_with fail
    refine (make_wg w w (Below.refl _ _)).mono ?_
    rintro e w2 ⟨p, c, rfl, hw⟩
    have H1 := Lib.hid hw
    clear hw
    go_wp2_with fail
    go_loop [3, 6] (fun s i => s = .int .i64 0 ∧ i = .int .i64 0) (fun _ _ => 0)
    case atStart => exact ⟨rfl, rfl⟩
    case round =>
      obtain ⟨rfl, rfl⟩ := hrel
      go_wp2_with fail
      go_ret
      exact ⟨rfl, H1.out.2.2.2.2.2⟩

theorem walk (a0 : Option Addr) (len0 cap0 : Nat) (z0 : List Int) (w : World) (w0 : IsRow .i32 w a0 len0 cap0 z0) :
    Calls Try.prog 6 #[.slice a0 len0 cap0] w fun e w' => e = .returned (.bool true) ∧ Below w.heap.size w w' := by
  rcases w0 with ⟨rfl, rfl, rfl, rfl⟩ | ⟨x, rfl, hl, hm, hz, hcell, hwf⟩
  · exact none_walk w
  by_cases hbig : 1048576 < len0
  · have HB := Lib.hid (bytes_no (some x) len0 cap0 hbig)
    go_enter Try.func6, Try.ntmps6
    go_wp2_with (go_at_call 13; refine (HB.out _).mono ?_; rintro e w' ⟨rfl, rfl⟩)
    go_ret
    exact ⟨rfl, Below.refl _ _⟩
  by_cases hmid : 65536 < len0
  · have HB := Lib.hid (bytes_yes (some x) len0 cap0 (by omega))
    clear hcell hwf
    go_enter Try.func6, Try.ntmps6
    go_wp2_with (go_at_call 13; refine (HB.out _).mono ?_; rintro e w' ⟨rfl, rfl⟩)
    go_ret
    exact ⟨rfl, Below.refl _ _⟩
  refine main w x len0 cap0 (fun i => z0.getD i 0) (by omega) ?_ ?_
  · by_cases h0 : len0 = 0
    · exact ⟨fun h => by omega, fun i hi => by omega⟩
    · obtain ⟨b, off, rfl, hc⟩ := ints_at hcell (by omega)
      exact ⟨fun _ => rfl, fun i hi => hc i (by omega)⟩
  · intro i hi
    have hm : z0.getD i 0 ∈ z0 := by
      rw [List.getD_eq_getElem?_getD, List.getElem?_eq_getElem (by omega), Option.getD_some]
      exact List.getElem_mem _
    simpa [Lit.wf, IntKind.min, IntKind.max, IntKind.signed, IntKind.bits] using hwf _ hm

/-! ### THE ROW's STEP: WRITTEN OUT: LEAVE IT -/
set_option maxRecDepth 100000 in
theorem lifted (os : Os) (started : os.Started) (H : Type) (enc : TypeId × Value → H) :
    ReturnsInHanded {} Try.checked os 6 .any (Rows.fnAddScriptMatchesModelSpec.pre6 enc Try.prog Try.f6 Rows.fnAddScriptMatchesModelRow.domain false) (Rows.fnAddScriptMatchesModelSpec.post enc Try.prog Try.f6 false true false false) := by
  refine returnsInHanded_of_change (C := Try.checked) own started (by kernel_rfl) Try.func6
    (ChangeSpec.witness6 (enc := enc) (C := Try.checked) false ⟨#[], #[.slice none 0 0], []⟩ 8 (by kernel_rfl) (by kernel_rfl) (by kernel_rfl) (by kernel_rfl)) ?_
  intro W base args ds gs before hval0 hW hcnd _
  have hval : ∀ (j : Nat) t v, Try.f6.params[j]? = some t → args[j]? = some v → Value.okWide Try.prog W .any base t v := hval0
  have hW' := hW
  obtain ⟨p, q, hA0, hV, rfl, hfz, hnd⟩ := hW
  have hA : DataW.TrodAll enc Try.prog W 0 (fun _ => true) true Try.f6.params.toList args.toList ds p := hA0
  rw [Try.params6] at hA hval
  obtain ⟨v0, vs0, d0, ds0, p0, q0, hargs, rfl, rfl, h0, r0⟩ := trodAll_cons hA
  obtain ⟨rfl, rfl, rfl⟩ := trodAll_nil r0
  obtain rfl : args = #[v0] := by cases args; simp_all
  obtain ⟨rfl, rfl⟩ := trodVars_none hV
  obtain ⟨a0, len0, cap0, rfl⟩ := okWide_slice Try.underlying28 (hval 0 28 v0 rfl rfl)
  have k0 := h0
  have lt0 : ∀ x ∈ p0, x.block < W.heap.size := by obtain ⟨m, hm⟩ := k0; exact DataW.trod_lt m _ _ _ hm
  obtain ⟨z0, w0⟩ : ∃ zs, IsRow .i32 W a0 len0 cap0 zs := by
    obtain ⟨fuel, hf⟩ := h0
    rcases open_ints Try.underlying28 Try.underlying21 (by kernel_rfl) hf with ⟨hcs, _⟩ | ⟨x, l, c, zs, hcs, _, hl, hm, hz, _, hcell, hwz⟩
    · simp [Value.cells] at hcs
      obtain ⟨rfl, rfl, rfl⟩ := hcs
      exact ⟨[], .inl ⟨rfl, rfl, rfl, rfl⟩⟩
    · simp [Value.cells] at hcs
      obtain ⟨rfl, rfl, rfl⟩ := hcs
      exact ⟨zs, .inr ⟨_, rfl, hl, hm, by simpa using hz, hcell, hwz⟩⟩
  clear hA0 hval0
  refine (walk a0 len0 cap0 z0 W w0).mono fun e W' ⟨he, bel⟩ => ?_
  subst he
  exact ⟨_, rfl, _, _, _, [], _, [], hW', trodAll_mk1 (shut_bool Try.underlying4 _), (trodAll_cons_mk (Below.trod laidOut (by kernel_rfl) (of_decide_eq_true (by kernel_rfl)) k0 bel lt0) trodAll_mk0), rfl, bel.frame _, fun h => by cases h⟩

theorem over : Rows.fnAddScriptMatchesModelRow.holds Try.pinned (OpenSpec.ofChange Rows.fnAddScriptMatchesModelSpec) :=
  OpenClaim.holds_of_wide 6 Try.f6 rfl rfl rfl rfl rfl rfl rfl ⟨rfl, rfl, rfl, rfl, rfl⟩ rfl rfl rfl rfl rfl (by kernel_rfl) Try.func6 (by kernel_rfl)
    (of_decide_eq_true (by kernel_rfl)) (by unfold Func.isWrapper; first | (rw [if_pos (by decide +kernel)]; kernel_rfl) | (rw [if_neg (by decide +kernel)]; exact ⟨rfl, rfl⟩))
    (fun os started H enc _ => lifted os started H enc)

/-- ████ THE STATEMENT ████ -/
theorem proved : Rows.FnAddScriptMatchesModelSaid := over
#print axioms proved
end Go.Proofs.Ytchmlhlpchbnoaa.fnAddScriptMatchesModel
