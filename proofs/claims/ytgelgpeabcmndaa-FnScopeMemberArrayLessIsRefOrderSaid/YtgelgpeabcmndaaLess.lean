/-
  Proved: for every three slices and every two ints FnScopeMemberArrayLessIsRefOrder returns true and leaves its arguments as they were. No condition.
-/
import Derived.Test.YtgelgpeabcmndaaRows
import Derived.WalkKit
import Derived.ProofKit
import Derived.OpenShut
import Derived.ShutString
import Derived.ChangeOld
import Derived.Below
import Derived.Test.YtgelgpeabcmndaaSm
import Derived.Deep.QuietTactic
import Derived.BigQuiet
namespace Go.Proofs.Ytgelgpeabcmndaa.fnScopeMemberArrayLessIsRefOrder
open Go.ChangeShapes Go.WideShapes Go.ChangeAt Go.RowKit
open Go.ChangeMaps (open_string shut_string)
set_option linter.unusedVariables false

theorem own : ownKnob Try.prog.godebug = none := by kernel_rfl
theorem laidOut : laidOutB Try.prog = true := by kernel_rfl

/-- WHAT THE WALK IS TOLD OF A SLICE OF INTEGERS THAT CAME IN: it is nil; or it leads to a row of 'cap' cells, the numbers 'zs' (the first 'len' are its elements, the rest its spare room), each fitting its kind. -/
def IsRow (k : IntKind) (w : World) (a : Option Addr) (len cap : Nat) (zs : List Int) : Prop :=
  (a = none ∧ len = 0 ∧ cap = 0 ∧ zs = []) ∨
  ∃ x, a = some x ∧ len ≤ cap ∧ cap ≤ maxLen ∧ zs.length = cap ∧ (∀ i, i < zs.length → w.cell? (x.add i) = some (.int k (zs.getD i 0))) ∧ ∀ n ∈ zs, (Lit.int k n).wf = true

open Go.Proofs.Ytgelgpeabcmndaa.sm Go.Deep

theorem bytes (a b c : Option Addr) (la lb lc ca cb cc : Nat) (x y : Int) (v : Bool) (hv : decide (la + lb + lc ≤ 1048576) = v) (ha : la ≤ maxLen) (hb : lb ≤ maxLen) (hc : lc ≤ maxLen) (w : World) :
    Calls Try.prog 5 #[.slice a la ca, .slice b lb cb, .slice c lc cc, .int .i64 x, .int .i64 y] w fun e w' => e = .returned (.bool v) ∧ w = w' := by
  unfold maxLen at ha hb hc
  have HV := Lib.hid hv
  clear hv
  by_cases h1 : 1048576 < la
  · obtain rfl : v = false := by rw [← HV.out]; simp; omega
    go_enter Try.func5, Try.ntmps5
    go_wp2
    go_ret
    exact ⟨rfl, rfl⟩
  by_cases h2 : 1048576 < lb
  · obtain rfl : v = false := by rw [← HV.out]; simp; omega
    go_enter Try.func5, Try.ntmps5
    go_wp2
    go_ret
    exact ⟨rfl, rfl⟩
  by_cases h3 : 1048576 < la + lb
  · obtain rfl : v = false := by rw [← HV.out]; simp; omega
    go_enter Try.func5, Try.ntmps5
    go_wp2
    go_ret
    exact ⟨rfl, rfl⟩
  by_cases h4 : 1048576 < lc
  · obtain rfl : v = false := by rw [← HV.out]; simp; omega
    go_enter Try.func5, Try.ntmps5
    go_wp2
    go_ret
    exact ⟨rfl, rfl⟩
  by_cases h5 : 1048576 < la + lb + lc
  · obtain rfl : v = false := by rw [← HV.out]; simp; omega
    go_enter Try.func5, Try.ntmps5
    go_wp2
    go_ret
    exact ⟨rfl, rfl⟩
  obtain rfl : v = true := by rw [← HV.out]; simp; omega
  go_enter Try.func5, Try.ntmps5
  go_wp2
  go_ret
  exact ⟨rfl, rfl⟩

set_option maxHeartbeats 4000000 in
/-- The statement's guards. -/
theorem guards (a b c : Option Addr) (la lb lc ca cb cc : Nat) (x y : Int) (w : World) (ha : la ≤ maxLen) (hb : lb ≤ maxLen) (hc : lc ≤ maxLen)
    (h : ¬ (la + lb + lc ≤ 1048576) ∨ 65536 < la ∨ 65536 < lb ∨ 65536 < lc ∨ 1048576 < 4 * la + 4 * lb + 4 * lc ∨ lb ≠ la ∨ lc ≠ la ∨ x < 0 ∨ (la : Int) ≤ x ∨ y < 0 ∨ (la : Int) ≤ y) :
    Calls Try.prog 3 #[.slice a la ca, .slice b lb cb, .slice c lc cc, .int .i64 x, .int .i64 y] w fun e w' => e = .returned (.bool true) ∧ Below w.heap.size w w' := by
  by_cases h0 : ¬ (la + lb + lc ≤ 1048576)
  · have HB := Lib.hid (bytes a b c la lb lc ca cb cc x y false (by simpa using h0) ha hb hc)
    clear h h0 ha hb hc
    go_enter Try.func3, Try.ntmps3
    go_wp2_with (go_at_call 5; refine (HB.out _).mono ?_; rintro e w' ⟨rfl, rfl⟩)
    go_ret
    exact ⟨rfl, Below.refl _ _⟩
  have HB := Lib.hid (bytes a b c la lb lc ca cb cc x y true (by simp; omega) ha hb hc)
  clear ha hb hc
  by_cases h1 : 65536 < la
  · clear h
    go_enter Try.func3, Try.ntmps3
    go_wp2_with (go_at_call 5; refine (HB.out _).mono ?_; rintro e w' ⟨rfl, rfl⟩)
    go_ret
    exact ⟨rfl, Below.refl _ _⟩
  by_cases h2 : 65536 < lb
  · clear h
    go_enter Try.func3, Try.ntmps3
    go_wp2_with (go_at_call 5; refine (HB.out _).mono ?_; rintro e w' ⟨rfl, rfl⟩)
    go_ret
    exact ⟨rfl, Below.refl _ _⟩
  by_cases h3 : 65536 < lc
  · clear h
    go_enter Try.func3, Try.ntmps3
    go_wp2_with (go_at_call 5; refine (HB.out _).mono ?_; rintro e w' ⟨rfl, rfl⟩)
    go_ret
    exact ⟨rfl, Below.refl _ _⟩
  have h4 : 4 * la + 4 * lb + 4 * lc ≤ 1048576 := by omega
  by_cases h5 : lb ≠ la
  · clear h
    have e5 : ((lb : Int) != (la : Int)) = true := by simp; omega
    go_enter Try.func3, Try.ntmps3
    go_wp2_with (go_at_call 5; refine (HB.out _).mono ?_; rintro e w' ⟨rfl, rfl⟩)
    go_ret
    exact ⟨rfl, Below.refl _ _⟩
  obtain rfl : la = lb := by omega
  by_cases h6 : lc ≠ la
  · clear h
    have e6 : ((lc : Int) != (la : Int)) = true := by simp; omega
    go_enter Try.func3, Try.ntmps3
    go_wp2_with (go_at_call 5; refine (HB.out _).mono ?_; rintro e w' ⟨rfl, rfl⟩)
    go_ret
    exact ⟨rfl, Below.refl _ _⟩
  obtain rfl : la = lc := by omega
  by_cases h7 : x < 0
  · clear h
    go_enter Try.func3, Try.ntmps3
    go_wp2_with (go_at_call 5; refine (HB.out _).mono ?_; rintro e w' ⟨rfl, rfl⟩)
    go_ret
    exact ⟨rfl, Below.refl _ _⟩
  by_cases h8 : (la : Int) ≤ x
  · clear h
    go_enter Try.func3, Try.ntmps3
    go_wp2_with (go_at_call 5; refine (HB.out _).mono ?_; rintro e w' ⟨rfl, rfl⟩)
    go_ret
    exact ⟨rfl, Below.refl _ _⟩
  by_cases h9 : y < 0
  · clear h
    go_enter Try.func3, Try.ntmps3
    go_wp2_with (go_at_call 5; refine (HB.out _).mono ?_; rintro e w' ⟨rfl, rfl⟩)
    go_ret
    exact ⟨rfl, Below.refl _ _⟩
  have h10 : (la : Int) ≤ y := by omega
  clear h
  go_enter Try.func3, Try.ntmps3
  go_wp2_with (go_at_call 5; refine (HB.out _).mono ?_; rintro e w' ⟨rfl, rfl⟩)
  go_ret
  exact ⟨rfl, Below.refl _ _⟩


theorem key_lt (a b : Mb) (ha : 0 ≤ a.i ∧ a.i ≤ 4294967295) (hb : 0 ≤ b.i ∧ b.i ≤ 4294967295) (ha' : 0 ≤ a.s ∧ a.s ≤ 4294967295) (hb' : 0 ≤ b.s ∧ b.s ≤ 4294967295) : decide (key a.i a.s < key b.i b.s) = lessB a b := by
  unfold key lessB
  rw [Bool.eq_iff_iff]
  simp
  omega

set_option maxHeartbeats 4000000 in
theorem main (w : World) (a b c : Addr) (n ca cb cc i j : Nat) (I S L : Nat → Int) (hn : n ≤ 65536) (hi : i < n) (hj : j < n) (h4 : 4 * n + 4 * n + 4 * n ≤ 1048576)
    (cI : Cells w a n fun i => Value.int .u32 (I i)) (cS : Cells w b n fun i => Value.int .u32 (S i)) (cL : Cells w c n fun i => Value.int .i32 (L i))
    (bI : ∀ i, i < n → 0 ≤ I i ∧ I i ≤ 4294967295) (bS : ∀ i, i < n → 0 ≤ S i ∧ S i ≤ 4294967295) :
    Calls Try.prog 3 #[.slice (some a) n ca, .slice (some b) n cb, .slice (some c) n cc, .int .i64 i, .int .i64 j] w fun e w' => e = .returned (.bool true) ∧ Below w.heap.size w w' := by
  have HB := Lib.hid (bytes (some a) (some b) (some c) n n n ca cb cc i j true (by simp; omega) (by unfold maxLen; omega) (by unfold maxLen; omega) (by unfold maxLen; omega))
  have CI := Lib.hid cI
  have CS := Lib.hid cS
  have CL := Lib.hid cL
  have BI := Lib.hid bI
  have BS := Lib.hid bS
  clear cI cS cL bI bS
  go_enter Try.func3, Try.ntmps3
  go_wp2_with fail
  refine (HB.out _).mono ?_
  rintro e w' ⟨rfl, rfl⟩
  go_wp2_with fail
  refine (cloneU w a n ca I (by omega) CI.out).mono ?_
  rintro e w1 ⟨rfl, hw1⟩
  have B1 := Lib.hid (show Below w.heap.size w w1 by rw [← hw1]; exact (Below.refl _ _).alloc (Nat.le_refl _) _)
  have I1 := Lib.hid (show Cells w1 ⟨w.heap.size, 0, none⟩ n fun i => Value.int .u32 (I i) by rw [← hw1]; exact Cells.made w n (fun i => Value.int .u32 (I i)) 32)
  clear hw1
  go_wp2_with fail
  refine (cloneU w1 b n cb S (by omega) (CS.out.below B1.out)).mono ?_
  rintro e w2 ⟨rfl, hw2⟩
  have B2 := Lib.hid (show Below w1.heap.size w1 w2 by rw [← hw2]; exact (Below.refl _ _).alloc (Nat.le_refl _) _)
  have S2 := Lib.hid (show Cells w2 ⟨w1.heap.size, 0, none⟩ n fun i => Value.int .u32 (S i) by rw [← hw2]; exact Cells.made w1 n (fun i => Value.int .u32 (S i)) 32)
  clear hw2
  go_wp2_with fail
  refine (cloneI w2 c n cc L (by omega) ((CL.out.below B1.out).below B2.out)).mono ?_
  rintro e w3 ⟨rfl, hw3⟩
  have B3 := Lib.hid (show Below w2.heap.size w2 w3 by rw [← hw3]; exact (Below.refl _ _).alloc (Nat.le_refl _) _)
  have L3 := Lib.hid (show Cells w3 ⟨w2.heap.size, 0, none⟩ n fun i => Value.int .i32 (L i) by rw [← hw3]; exact Cells.made w2 n (fun i => Value.int .i32 (L i)) 21)
  clear hw3
  have I3 := Lib.hid ((I1.out.below B2.out).below B3.out)
  have S3 := Lib.hid (S2.out.below B3.out)
  go_wp2_with fail
  refine (build w3 w.heap.size w1.heap.size w2.heap.size 0 0 0 n n n n I S L hn I3.out S3.out L3.out).mono ?_
  rintro e w4 ⟨g, rfl, hg, h5⟩
  have H5 := Lib.hid h5
  have HG := Lib.hid hg
  have B4 := Lib.hid (show Below w.heap.size w w4 from ((B1.out.trans (B2.out.mono B1.out.size)).trans (B3.out.mono (Nat.le_trans B1.out.size B2.out.size))).trans (h5.2.mono (by rw [hg]; exact Nat.le_trans (Nat.le_trans B1.out.size B2.out.size) B3.out.size)))
  have hb4 : Below w3.heap.size w3 w4 := by rw [← hg]; exact h5.2
  clear h5 hg
  have c1 : w4.cell? ⟨w.heap.size, i, none⟩ = some (.int .u32 (I i)) := by simpa using (I3.out.below hb4).2 i hi
  have c2 : w4.cell? ⟨w1.heap.size, i, none⟩ = some (.int .u32 (S i)) := by simpa using (S3.out.below hb4).2 i hi
  have c3 : w4.cell? ⟨w.heap.size, j, none⟩ = some (.int .u32 (I j)) := by simpa using (I3.out.below hb4).2 j hj
  have c4 : w4.cell? ⟨w1.heap.size, j, none⟩ = some (.int .u32 (S j)) := by simpa using (S3.out.below hb4).2 j hj
  clear hb4
  have ki := BI.out i hi
  have kj := BI.out j hj
  have si := BS.out i hi
  have sj := BS.out j hj
  have K1 := Lib.hid (fun w => key_any w (I i) (S i) ki si)
  have K2 := Lib.hid (fun w => key_any w (I j) (S j) kj sj)
  have HK := Lib.hid (key_lt ⟨S i, I i, L i⟩ ⟨S j, I j, L j⟩ ki kj si sj)
  go_wp2_with fail
  go_quiet (first | (go_at_call 9; exact Calls.quiet_of_same ((K1.out _).mono fun _ _ h => ⟨h.1, h.2.symm⟩)) | (go_at_call 9; exact Calls.quiet_of_same ((K2.out _).mono fun _ _ h => ⟨h.1, h.2.symm⟩)))
  go_wp2_with fail
  refine (less _ g n i j (fun q => ⟨S q, I q, L q⟩) hi hj hn (show RowG (w4.drewN nq) g 47 (n * 3) (Mb.flat fun q => ⟨S q, I q, L q⟩) from RowG.of_block H5.out.1 rfl)).mono ?_
  rintro e w5 ⟨rfl, hb5⟩
  have B5 := Lib.hid (B4.out.trans (((below_drewN (Below.refl w4.heap.size w4) nq).trans hb5).mono B4.out.size))
  clear hb5
  go_wp2_with fail
  go_ret
  refine ⟨?_, B5.out⟩
  have hk : decide (key (I i) (S i) < key (I j) (S j)) = lessB ⟨S i, I i, L i⟩ ⟨S j, I j, L j⟩ := HK.out
  show Ending.returned (.bool (lessB ⟨S i, I i, L i⟩ ⟨S j, I j, L j⟩ == decide (key (I i) (S i) < key (I j) (S j)))) = _
  rw [hk]
  simp

theorem walk (a0 : Option Addr) (len0 cap0 : Nat) (z0 : List Int) (a1 : Option Addr) (len1 cap1 : Nat) (z1 : List Int) (a2 : Option Addr) (len2 cap2 : Nat) (z2 : List Int) (a3 : Int) (a4 : Int) (w : World) (w0 : IsRow .u32 w a0 len0 cap0 z0) (w1 : IsRow .u32 w a1 len1 cap1 z1) (w2 : IsRow .i32 w a2 len2 cap2 z2) (w3 : (Lit.int .i64 a3).wf = true) (w4 : (Lit.int .i64 a4).wf = true) :
    Calls Try.prog 3 #[.slice a0 len0 cap0, .slice a1 len1 cap1, .slice a2 len2 cap2, .int .i64 a3, .int .i64 a4] w fun e w' => e = .returned (.bool true) ∧ Below w.heap.size w w' := by
  have hla : len0 ≤ maxLen := by rcases w0 with ⟨_, rfl, _, _⟩ | ⟨_, _, h1, h2, _⟩ <;> first | exact Nat.zero_le _ | exact Nat.le_trans h1 h2
  have hlb : len1 ≤ maxLen := by rcases w1 with ⟨_, rfl, _, _⟩ | ⟨_, _, h1, h2, _⟩ <;> first | exact Nat.zero_le _ | exact Nat.le_trans h1 h2
  have hlc : len2 ≤ maxLen := by rcases w2 with ⟨_, rfl, _, _⟩ | ⟨_, _, h1, h2, _⟩ <;> first | exact Nat.zero_le _ | exact Nat.le_trans h1 h2
  by_cases hg : ¬ (len0 + len1 + len2 ≤ 1048576) ∨ 65536 < len0 ∨ 65536 < len1 ∨ 65536 < len2 ∨ 1048576 < 4 * len0 + 4 * len1 + 4 * len2 ∨ len1 ≠ len0 ∨ len2 ≠ len0 ∨ a3 < 0 ∨ (len0 : Int) ≤ a3 ∨ a4 < 0 ∨ (len0 : Int) ≤ a4
  · exact guards a0 a1 a2 len0 len1 len2 cap0 cap1 cap2 a3 a4 w hla hlb hlc hg
  obtain ⟨i, rfl⟩ : ∃ i : Nat, a3 = (i : Int) := ⟨a3.toNat, by omega⟩
  obtain ⟨j, rfl⟩ : ∃ j : Nat, a4 = (j : Int) := ⟨a4.toNat, by omega⟩
  obtain rfl : len0 = len1 := by omega
  obtain rfl : len0 = len2 := by omega
  rcases w0 with ⟨_, h0, _, _⟩ | ⟨x0, rfl, hl0, hm0, hz0, hc0, hw0⟩
  · omega
  rcases w1 with ⟨_, h0, _, _⟩ | ⟨x1, rfl, hl1, hm1, hz1, hc1, hw1⟩
  · omega
  rcases w2 with ⟨_, h0, _, _⟩ | ⟨x2, rfl, hl2, hm2, hz2, hc2, hw2⟩
  · omega
  have cells : ∀ (k : IntKind) (x : Addr) (zs : List Int), len0 ≤ zs.length → (∀ i, i < zs.length → w.cell? (x.add i) = some (.int k (zs.getD i 0))) → Cells w x len0 fun i => Value.int k (zs.getD i 0) := by
    intro k x zs hz hc
    obtain ⟨b, off, rfl, hc'⟩ := ints_at hc (by omega)
    exact ⟨fun _ => rfl, fun i hi => hc' i (by omega)⟩
  have mem : ∀ (zs : List Int) (i : Nat), i < zs.length → zs.getD i 0 ∈ zs := by
    intro zs i hi
    rw [List.getD_eq_getElem?_getD, List.getElem?_eq_getElem hi, Option.getD_some]
    exact List.getElem_mem _
  refine main w x0 x1 x2 len0 cap0 cap1 cap2 i j (fun i => z0.getD i 0) (fun i => z1.getD i 0) (fun i => z2.getD i 0) (by omega) (by omega) (by omega) (by omega)
    (cells _ x0 z0 (by omega) hc0) (cells _ x1 z1 (by omega) hc1) (cells _ x2 z2 (by omega) hc2) ?_ ?_
  · intro i hi
    simpa [Lit.wf, IntKind.min, IntKind.max, IntKind.signed, IntKind.bits] using hw0 _ (mem z0 i (by omega))
  · intro i hi
    simpa [Lit.wf, IntKind.min, IntKind.max, IntKind.signed, IntKind.bits] using hw1 _ (mem z1 i (by omega))

/-! ### THE ROW's STEP: WRITTEN OUT: LEAVE IT -/
set_option maxRecDepth 100000 in
theorem lifted (os : Os) (started : os.Started) (H : Type) (enc : TypeId × Value → H) :
    ReturnsInHanded {} Try.checked os 3 .any (Rows.fnScopeMemberArrayLessIsRefOrderSpec.pre6 enc Try.prog Try.f3 Rows.fnScopeMemberArrayLessIsRefOrderRow.domain false) (Rows.fnScopeMemberArrayLessIsRefOrderSpec.post enc Try.prog Try.f3 false true false false) := by
  refine returnsInHanded_of_change (C := Try.checked) own started (by kernel_rfl) Try.func3
    (ChangeSpec.witness6 (enc := enc) (C := Try.checked) false ⟨#[], #[.slice none 0 0, .slice none 0 0, .slice none 0 0, .int .i64 0, .int .i64 0], []⟩ 8 (by kernel_rfl) (by kernel_rfl) (by kernel_rfl) (by kernel_rfl)) ?_
  intro W base args ds gs before hval0 hW hcnd _
  have hval : ∀ (j : Nat) t v, Try.f3.params[j]? = some t → args[j]? = some v → Value.okWide Try.prog W .any base t v := hval0
  have hW' := hW
  obtain ⟨p, q, hA0, hV, rfl, hfz, hnd⟩ := hW
  have hA : DataW.TrodAll enc Try.prog W 0 (fun _ => true) true Try.f3.params.toList args.toList ds p := hA0
  rw [Try.params3] at hA hval
  obtain ⟨v0, vs0, d0, ds0, p0, q0, hargs, rfl, rfl, h0, r0⟩ := trodAll_cons hA
  obtain ⟨v1, vs1, d1, ds1, p1, q1, rfl, rfl, rfl, h1, r1⟩ := trodAll_cons r0
  obtain ⟨v2, vs2, d2, ds2, p2, q2, rfl, rfl, rfl, h2, r2⟩ := trodAll_cons r1
  obtain ⟨v3, vs3, d3, ds3, p3, q3, rfl, rfl, rfl, h3, r3⟩ := trodAll_cons r2
  obtain ⟨v4, vs4, d4, ds4, p4, q4, rfl, rfl, rfl, h4, r4⟩ := trodAll_cons r3
  obtain ⟨rfl, rfl, rfl⟩ := trodAll_nil r4
  obtain rfl : args = #[v0, v1, v2, v3, v4] := by cases args; simp_all
  obtain ⟨rfl, rfl⟩ := trodVars_none hV
  obtain ⟨a0, len0, cap0, rfl⟩ := okWide_slice Try.underlying22 (hval 0 22 v0 rfl rfl)
  have k0 := h0
  have lt0 : ∀ x ∈ p0, x.block < W.heap.size := by obtain ⟨m, hm⟩ := k0; exact DataW.trod_lt m _ _ _ hm
  obtain ⟨z0, w0⟩ : ∃ zs, IsRow .u32 W a0 len0 cap0 zs := by
    obtain ⟨fuel, hf⟩ := h0
    rcases open_ints Try.underlying22 Try.underlying32 (by kernel_rfl) hf with ⟨hcs, _⟩ | ⟨x, l, c, zs, hcs, _, hl, hm, hz, _, hcell, hwz⟩
    · simp [Value.cells] at hcs
      obtain ⟨rfl, rfl, rfl⟩ := hcs
      exact ⟨[], .inl ⟨rfl, rfl, rfl, rfl⟩⟩
    · simp [Value.cells] at hcs
      obtain ⟨rfl, rfl, rfl⟩ := hcs
      exact ⟨zs, .inr ⟨_, rfl, hl, hm, by simpa using hz, hcell, hwz⟩⟩
  obtain ⟨a1, len1, cap1, rfl⟩ := okWide_slice Try.underlying22 (hval 1 22 v1 rfl rfl)
  have k1 := h1
  have lt1 : ∀ x ∈ p1, x.block < W.heap.size := by obtain ⟨m, hm⟩ := k1; exact DataW.trod_lt m _ _ _ hm
  obtain ⟨z1, w1⟩ : ∃ zs, IsRow .u32 W a1 len1 cap1 zs := by
    obtain ⟨fuel, hf⟩ := h1
    rcases open_ints Try.underlying22 Try.underlying32 (by kernel_rfl) hf with ⟨hcs, _⟩ | ⟨x, l, c, zs, hcs, _, hl, hm, hz, _, hcell, hwz⟩
    · simp [Value.cells] at hcs
      obtain ⟨rfl, rfl, rfl⟩ := hcs
      exact ⟨[], .inl ⟨rfl, rfl, rfl, rfl⟩⟩
    · simp [Value.cells] at hcs
      obtain ⟨rfl, rfl, rfl⟩ := hcs
      exact ⟨zs, .inr ⟨_, rfl, hl, hm, by simpa using hz, hcell, hwz⟩⟩
  obtain ⟨a2, len2, cap2, rfl⟩ := okWide_slice Try.underlying23 (hval 2 23 v2 rfl rfl)
  have k2 := h2
  have lt2 : ∀ x ∈ p2, x.block < W.heap.size := by obtain ⟨m, hm⟩ := k2; exact DataW.trod_lt m _ _ _ hm
  obtain ⟨z2, w2⟩ : ∃ zs, IsRow .i32 W a2 len2 cap2 zs := by
    obtain ⟨fuel, hf⟩ := h2
    rcases open_ints Try.underlying23 Try.underlying21 (by kernel_rfl) hf with ⟨hcs, _⟩ | ⟨x, l, c, zs, hcs, _, hl, hm, hz, _, hcell, hwz⟩
    · simp [Value.cells] at hcs
      obtain ⟨rfl, rfl, rfl⟩ := hcs
      exact ⟨[], .inl ⟨rfl, rfl, rfl, rfl⟩⟩
    · simp [Value.cells] at hcs
      obtain ⟨rfl, rfl, rfl⟩ := hcs
      exact ⟨zs, .inr ⟨_, rfl, hl, hm, by simpa using hz, hcell, hwz⟩⟩
  obtain ⟨a3, rfl, rfl, rfl, w3⟩ := open_int Try.underlying3 (hval 3 3 v3 rfl rfl) h3
  obtain ⟨a4, rfl, rfl, rfl, w4⟩ := open_int Try.underlying3 (hval 4 3 v4 rfl rfl) h4
  clear hA0 hval0
  refine (walk a0 len0 cap0 z0 a1 len1 cap1 z1 a2 len2 cap2 z2 a3 a4 W w0 w1 w2 w3 w4).mono fun e W' ⟨he, bel⟩ => ?_
  subst he
  exact ⟨_, rfl, _, _, _, [], _, [], hW', trodAll_mk1 (shut_bool Try.underlying4 _), (trodAll_cons_mk (Below.trod laidOut (by kernel_rfl) (of_decide_eq_true (by kernel_rfl)) k0 bel lt0) (trodAll_cons_mk (Below.trod laidOut (by kernel_rfl) (of_decide_eq_true (by kernel_rfl)) k1 bel lt1) (trodAll_cons_mk (Below.trod laidOut (by kernel_rfl) (of_decide_eq_true (by kernel_rfl)) k2 bel lt2) (trodAll_cons_mk (shut_int Try.underlying3 w3) (trodAll_cons_mk (shut_int Try.underlying3 w4) trodAll_mk0))))), rfl, bel.frame _, fun h => by cases h⟩

theorem over : Rows.fnScopeMemberArrayLessIsRefOrderRow.holds Try.pinned (OpenSpec.ofChange Rows.fnScopeMemberArrayLessIsRefOrderSpec) :=
  OpenClaim.holds_of_wide 3 Try.f3 rfl rfl rfl rfl rfl rfl rfl ⟨rfl, rfl, rfl, rfl, rfl⟩ rfl rfl rfl rfl rfl (by kernel_rfl) Try.func3 (by kernel_rfl)
    (of_decide_eq_true (by kernel_rfl)) (by unfold Func.isWrapper; first | (rw [if_pos (by decide +kernel)]; kernel_rfl) | (rw [if_neg (by decide +kernel)]; exact ⟨rfl, rfl⟩))
    (fun os started H enc _ => lifted os started H enc)

/-- ████ THE STATEMENT ████ -/
theorem proved : Rows.FnScopeMemberArrayLessIsRefOrderSaid := over
#print axioms proved
end Go.Proofs.Ytgelgpeabcmndaa.fnScopeMemberArrayLessIsRefOrder
