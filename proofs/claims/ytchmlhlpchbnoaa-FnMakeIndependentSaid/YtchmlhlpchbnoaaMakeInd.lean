/-
  Proved: for every int32 d FnMakeIndependent returns true and leaves its argument as it was. No condition.
-/
import Derived.Test.YtchmlhlpchbnoaaRows
import Derived.WalkKit
import Derived.ProofKit
import Derived.OpenShut
import Derived.ShutString
import Derived.Test.YtchmlhlpchbnoaaWg2
import Derived.WalkLawsBesides
import Derived.Lib.Hide
import Derived.LaidEqlPtr
namespace Go.Proofs.Ytchmlhlpchbnoaa.fnMakeIndependent
open Go.ChangeShapes Go.WideShapes Go.ChangeAt Go.RowKit
open Go.ChangeMaps (open_string shut_string)
set_option linter.unusedVariables false      -- a walk need not use every 'w<i>' (that an integer argument fits its kind)

theorem own : ownKnob Try.prog.godebug = none := by kernel_rfl

open Go.Proofs.Ytchmlhlpchbnoaa.wg

def Made2 (w0 : World) (b c : Nat) (n : Int) (t : Nat) (e : Ending) (w : World) : Prop :=
  ∃ b2 c2, e = .returned (.pointer (some ⟨b2, 0, none⟩)) ∧ WG w0 w b c n t ∧ WG w0 w b2 c2 0 0 ∧ b < b2 ∧ b ≠ c2

theorem WG.later {w0 w1 w2 : World} {b c : Nat} {n : Int} {t : Nat} (h : WG w0 w1 b c n t) (hb : Below w1.heap.size w1 w2) : WG w0 w2 b c n t := by
  obtain ⟨h1, ⟨s, r, h2⟩, h3, h4, h5, h6⟩ := h
  have l1 := lt_of_block h1
  have l2 := lt_of_block h2
  exact ⟨(hb.block b l1).trans h1, ⟨s, r, (hb.block c l2).trans h2⟩, h3, h4, h5, h6.trans (hb.mono h6.size)⟩

theorem WG.base {w0 w1 w2 : World} {b c : Nat} {n : Int} {t : Nat} (h : WG w1 w2 b c n t) (hb : Below w0.heap.size w0 w1) : WG w0 w2 b c n t := by
  obtain ⟨h1, h2, h3, h4, h5, h6⟩ := h
  have hs := hb.size
  exact ⟨h1, h2, h3, by omega, by omega, hb.trans (h6.mono hs)⟩

theorem make_two (w0 w : World) (b c : Nat) (n : Int) (t : Nat) (h : WG w0 w b c n t) : Calls Try.prog 7 #[] w (Made2 w0 b c n t) := by
  refine (make_wg w w (Below.refl _ _)).mono ?_
  rintro e w' ⟨b2, c2, rfl, h2⟩
  have l1 := lt_of_block h.1
  have l2 := h2.2.2.2.1
  have l3 := h2.2.2.2.2.1
  exact ⟨b2, c2, rfl, WG.later h h2.2.2.2.2.2, WG.base h2 h.2.2.2.2.2, by omega, by omega⟩

def Add2 (w0 : World) (b c b2 c2 : Nat) (d : Int) (e : Ending) (w : World) : Prop := e = .returned (.tuple #[]) ∧ WG w0 w b c d 0 ∧ WG w0 w b2 c2 0 0

theorem add_two (w0 w : World) (b c b2 c2 : Nat) (d : Int) (h : WG w0 w b c 0 0) (h2 : WG w0 w b2 c2 0 0) (hlt : b < b2) (hc2 : b ≠ c2) (hlo : 0 < d) (hhi : d ≤ 2147483647) :
    Calls Try.prog 8 #[.pointer (some ⟨b, 0, none⟩), .int .i32 d] w (Add2 w0 b c b2 c2 d) := by
  refine (add_pos w b 0 d h.c0 h.fz (by omega) (by omega)).mono ?_
  rintro e w' ⟨rfl, rfl⟩
  rw [Int.zero_add]
  obtain ⟨hb, ⟨s, r, hc⟩, hbc, h1, h1', h3⟩ := h
  obtain ⟨kb, ⟨s2, r2, kc⟩, kbc, k1, k1', k3⟩ := h2
  refine ⟨rfl, ⟨heap_setCell_same w b 0 _ _ _ hb, ⟨s, r, ?_⟩, hbc, h1, h1', h3.setCell h1 _⟩, ⟨?_, ⟨s2, r2, ?_⟩, kbc, k1, k1', h3.setCell h1 _⟩⟩
  · rw [Below.heap_setCell _ _ _ _ (by exact fun e => hbc e.symm)]
    exact hc
  · rw [Below.heap_setCell _ _ _ _ (by show b2 ≠ b; omega)]
    exact kb
  · rw [Below.heap_setCell _ _ _ _ (by exact fun e => hc2 e.symm)]
    exact kc

theorem ptr_ne (w : World) (b b2 c c2 : Nat) (hlt : b < b2) {n n2 : Int} (h1 : w.heap[b]? = some (.cells #[.int .i32 n, .chan (some c)] 33 (0, 0)))
    (h2 : w.heap[b2]? = some (.cells #[.int .i32 n2, .chan (some c2)] 33 (0, 0))) :
    (binOp .eql 22 (.pointer (some ⟨b, 0, none⟩)) (.pointer (some ⟨b2, 0, none⟩))).run Try.prog w = .ok (.bool false) w := by
  have h : (Try.prog.info? 33).map (·.size) = some 2 := by kernel_rfl
  obtain ⟨i, hi, hb⟩ := Option.map_eq_some_iff.1 h
  exact run_eql_ptr_other w Try.underlying22 hi (by rw [hb]; omega) (by intro e; injection e; omega) h1 h2

theorem walk (a0 : Int) (w0 : (Lit.int .i32 a0).wf = true) (w : World) :
    Calls Try.prog 3 #[.int .i32 a0] w fun e w' => e = .returned (.bool true) ∧ Below w.heap.size w w' := by
  have hx : -2147483648 ≤ a0 ∧ a0 ≤ 2147483647 := by simpa [Lit.wf, IntKind.min, IntKind.max, IntKind.signed, IntKind.bits] using w0
  by_cases hlo : a0 < 1
  · go_enter Try.func3, Try.ntmps3
    go_wp2_with fail
    go_ret
    exact ⟨rfl, Below.refl _ _⟩
  clear w0
  go_enter Try.func3, Try.ntmps3
  go_wp2_with fail
  refine (make_wg w w (Below.refl _ _)).mono ?_
  rintro e w1 ⟨b, c, rfl, hw⟩
  have H1 := Lib.hid hw
  clear hw
  go_wp2_with fail
  refine (make_two w w1 b c 0 0 H1.out).mono ?_
  rintro e w2 ⟨b2, c2, rfl, hw, hw2, hlt, hc2⟩
  have H2 := Lib.hid hw
  have H3 := Lib.hid hw2
  clear hw hw2
  have hne := ptr_ne w2 b b2 c c2 hlt H2.out.1 H3.out.1
  go_wp2_with fail
  refine (add_two w w2 b c b2 c2 a0 H2.out H3.out hlt hc2 (by omega) (by omega)).mono ?_
  rintro e w3 ⟨rfl, h4, h5⟩
  have H4 := Lib.hid h4
  have H5 := Lib.hid h5
  clear h4 h5 hne
  go_wp2_with fail
  refine (counter_wg w _ b c _ _ H4.out).mono ?_
  rintro e w4 ⟨rfl, rfl⟩
  go_wp2_with fail
  refine (pending_wg w _ b c _ _ H4.out).mono ?_
  rintro e w4 ⟨rfl, rfl⟩
  go_wp2_with fail
  refine (counter_wg w _ b2 c2 _ _ H5.out).mono ?_
  rintro e w4 ⟨rfl, rfl⟩
  go_wp2_with fail
  refine (pending_wg w _ b2 c2 _ _ H5.out).mono ?_
  rintro e w4 ⟨rfl, rfl⟩
  go_wp2_with fail
  go_ret
  exact ⟨rfl, H5.out.2.2.2.2.2⟩

/-! ### THE ROW's STEP: WRITTEN OUT: LEAVE IT -/
set_option maxRecDepth 100000 in
theorem lifted (os : Os) (started : os.Started) (H : Type) (enc : TypeId × Value → H) :
    ReturnsInHanded {} Try.checked os 3 .any (Rows.fnMakeIndependentSpec.pre6 enc Try.prog Try.f3 Rows.fnMakeIndependentRow.domain false) (Rows.fnMakeIndependentSpec.post enc Try.prog Try.f3 false true false false) := by
  refine returnsInHanded_of_change (C := Try.checked) own started (by kernel_rfl) Try.func3
    (ChangeSpec.witness6 (enc := enc) (C := Try.checked) false ⟨#[], #[.int .i32 0], []⟩ 8 (by kernel_rfl) (by kernel_rfl) (by kernel_rfl) (by kernel_rfl)) ?_
  intro W base args ds gs before hval0 hW hcnd _
  have hval : ∀ (j : Nat) t v, Try.f3.params[j]? = some t → args[j]? = some v → Value.okWide Try.prog W .any base t v := hval0
  have hW' := hW
  obtain ⟨p, q, hA0, hV, rfl, hfz, hnd⟩ := hW
  have hA : DataW.TrodAll enc Try.prog W 0 (fun _ => true) true Try.f3.params.toList args.toList ds p := hA0
  rw [Try.params3] at hA hval
  obtain ⟨v0, vs0, d0, ds0, p0, q0, hargs, rfl, rfl, h0, r0⟩ := trodAll_cons hA
  obtain ⟨rfl, rfl, rfl⟩ := trodAll_nil r0
  obtain rfl : args = #[v0] := by cases args; simp_all
  obtain ⟨rfl, rfl⟩ := trodVars_none hV
  obtain ⟨a0, rfl, rfl, rfl, w0⟩ := open_int Try.underlying21 (hval 0 21 v0 rfl rfl) h0
  clear hA0 hval0
  simp only [List.append_nil] at hW'
  refine (walk a0 w0 W).mono fun e W' ⟨he, bel⟩ => ?_
  subst he
  exact ⟨_, rfl, _, _, _, [], _, [], hW', (trodAll_cons_mk (shut_bool Try.underlying4 _) trodAll_mk0), (trodAll_cons_mk (shut_int Try.underlying21 w0) trodAll_mk0), rfl, bel.frame _, fun h => by cases h⟩

theorem over : Rows.fnMakeIndependentRow.holds Try.pinned (OpenSpec.ofChange Rows.fnMakeIndependentSpec) :=
  OpenClaim.holds_of_wide 3 Try.f3 rfl rfl rfl rfl rfl rfl rfl ⟨rfl, rfl, rfl, rfl, rfl⟩ rfl rfl rfl rfl rfl (by kernel_rfl) Try.func3 (by kernel_rfl)
    (of_decide_eq_true (by kernel_rfl)) (by unfold Func.isWrapper; first | (rw [if_pos (by decide +kernel)]; kernel_rfl) | (rw [if_neg (by decide +kernel)]; exact ⟨rfl, rfl⟩))
    (fun os started H enc _ => lifted os started H enc)

/-- ████ THE STATEMENT ████ -/
theorem proved : Rows.FnMakeIndependentSaid :=
  over
#print axioms proved
end Go.Proofs.Ytchmlhlpchbnoaa.fnMakeIndependent
