/-
  Storing a name by its place in the file: store and load.
-/
import Derived.Test.YtfnicbfdfceagaaNp
import Derived.Deep.RegionWith

namespace Go.Proofs.Ytfnicbfdfceagaa.st
open Go.ChangeShapes Go.WideShapes Go.ChangeAt Go.RowKit Go.Deep
set_option linter.unusedVariables false
set_option linter.unusedSimpArgs false

set_option maxRecDepth 100000
set_option maxHeartbeats 4000000
theorem wr_neg {n : Nat} (h0 : 0 < n) (h1 : n ≤ 1048576) : IntKind.u32.wrap (-IntKind.u32.wrap (n : Int)) = 4294967296 - (n : Int) := by
  rw [IntKind.wrap_u32, IntKind.wrap_u32]; omega
theorem store10 (w : World) (g : Nat) (s : ByteArray) (fl : Int) (hf : fl ≠ 0) (h0 : 0 < s.size) (h1 : s.size ≤ 1048576) : Calls Try.prog 10 #[.pointer (some ⟨g, 0, none⟩), .agg #[.string s, .int .u32 fl]] w
    (fun e w' => e = .returned (.agg #[.int .u32 (4294967296 - (s.size : Int)), .int .u32 (flip fl)]) ∧ Below w.heap.size w w') := by
  have hsz := Lib.hid (And.intro h0 h1)
  clear h0 h1
  go_enter Try.func10, Try.ntmps10
  go_wp2_with (go_at_call 20; go_loud (refine (val20 fl hf _).mono ?_; rintro e w2 ⟨rfl, hb⟩; have HB2 := Lib.hid hb; clear hb))
  have hA := heap_alloc_new w (.cells #[.string s, .int .u32 fl] 145)
  have hA2 : ((w.alloc (.cells #[.string s, .int .u32 fl] 145)).alloc (.cells #[.int .u32 0, .int .u32 0] 28)).heap[w.heap.size]? = some (.cells #[.string s, .int .u32 fl] 145 (0, 0)) := (Below.heap_alloc _ _ _ (by simp)).trans hA
  have hA3 := heap_alloc_new (w.alloc (.cells #[.string s, .int .u32 fl] 145)) (.cells #[.int .u32 0, .int .u32 0] 28)
  have hz : (w.alloc (.cells #[.string s, .int .u32 fl] 145)).heap.size = w.heap.size + 1 := by simp
  rw [hz] at hA3
  have hz2 : ((w.alloc (.cells #[.string s, .int .u32 fl] 145)).alloc (.cells #[.int .u32 0, .int .u32 0] 28)).heap.size = w.heap.size + 2 := by simp
  have hBw : Below w.heap.size w ((w.alloc (.cells #[.string s, .int .u32 fl] 145)).alloc (.cells #[.int .u32 0, .int .u32 0] 28)) := ((Below.refl _ _).alloc (Nat.le_refl _) _).alloc (by simp) _
  have hB2 := (HB2.out.block w.heap.size (by omega)).trans hA2
  have hB3 := (HB2.out.block (w.heap.size + 1) (by omega)).trans hA3
  have hsz2 := HB2.out.size
  rw [hz2] at hsz2
  have HBW : Hid (Below w.heap.size w w2) := Lib.hid (hBw.trans (HB2.out.mono (by omega)))
  have c0 : w2.cell? ⟨w.heap.size, 0, none⟩ = some (.string s) := cell_of_row _ _ 0 _ _ _ hB2
  have c1 : w2.cell? ⟨w.heap.size, 1, none⟩ = some (.int .u32 fl) := cell_of_row _ _ 1 _ _ _ hB2
  have d0 : w2.cell? ⟨w.heap.size + 1, 0, none⟩ = some (.int .u32 0) := cell_of_row _ _ 0 _ _ _ hB3
  have d1 : w2.cell? ⟨w.heap.size + 1, 1, none⟩ = some (.int .u32 0) := cell_of_row _ _ 1 _ _ _ hB3
  have e0 : w2.frozen? ⟨w.heap.size + 1, 0, none⟩ = false := frozen_of_row _ _ 0 _ _ hB3
  have e1 : w2.frozen? ⟨w.heap.size + 1, 1, none⟩ = false := frozen_of_row _ _ 1 _ _ hB3
  have HZ := Lib.hid hsz2
  clear HB2 hA hA2 hA3 hz hz2 hBw hB2 hB3 hsz2
  have HBD : Hid (Below w.heap.size w w2.drew) := Lib.hid (HBW.out.trans (belDrew _))
  have HZD : Hid (w.heap.size + 2 ≤ w2.drew.heap.size) := HZ
  go_region_with (go_at_call 21; go_loud (refine (get21 fl _).mono ?_; rintro e w3 ⟨rfl, hb⟩; have hZ := HZD.out; have HB3 := bel2 HBD hb; have HZ3 := Lib.hid (Nat.le_trans HZD.out hb.size); have x0 := (hb.cell (p := ⟨w.heap.size, 0, none⟩) (by show w.heap.size < w2.drew.heap.size; omega)).trans c0; have y0 := (hb.cell (p := ⟨w.heap.size + 1, 0, none⟩) (by show w.heap.size + 1 < w2.drew.heap.size; omega)).trans d0; have y1 := (hb.cell (p := ⟨w.heap.size + 1, 1, none⟩) (by show w.heap.size + 1 < w2.drew.heap.size; omega)).trans d1; have z0 := (hb.frozen (p := ⟨w.heap.size + 1, 0, none⟩) (by show w.heap.size + 1 < w2.drew.heap.size; omega)).trans e0; have z1 := (hb.frozen (p := ⟨w.heap.size + 1, 1, none⟩) (by show w.heap.size + 1 < w2.drew.heap.size; omega)).trans e1; clear hb hZ))
  all_goals
    have hV := wr_neg hsz.out.1 hsz.out.2
    simp only [hV]
    go_simp
    go_wp2_with fail
    have hZ := HZ3.out
    refine bodyPost_ret (v := .agg #[.int .u32 (4294967296 - (s.size : Int)), .int .u32 (flip fl)]) (by simp [results, Try.results10, go_sem, y0, y1, z0, z1]) rfl ⟨rfl, ?_⟩
    exact (HB3.out.setCell (by simp) _).setCell (by simp) _
/-- The name's place and length are kept. -/
theorem store6 (w : World) (g : Nat) (s : ByteArray) (x : Nat) (hx : x ≤ 1048576) (h0 : 0 < s.size) (h1 : s.size ≤ 1048576) : Calls Try.prog 6 #[.pointer (some ⟨g, 0, none⟩), .string s, .int .u32 x] w
    (fun e w' => e = .returned (.agg #[.int .u32 (4294967296 - (s.size : Int)), .int .u32 x]) ∧ Below w.heap.size w w') := by
  have hf : flip (x : Int) ≠ 0 := by rw [flip_nat x (by omega)]; omega
  have hff : flip (flip (x : Int)) = x := by rw [flip_nat x (by omega), flip_nat _ (by omega)]; omega
  have HF := Lib.hid hff
  have HX := Lib.hid (And.intro h0 h1)
  clear hx hff h0 h1
  go_enter Try.func6, Try.ntmps6
  have hA := heap_alloc_new w (.cells #[.int .u32 0, .int .u32 0] 28)
  have a0 : (w.alloc (.cells #[.int .u32 0, .int .u32 0] 28)).cell? ⟨w.heap.size, 0, none⟩ = some (.int .u32 0) := cell_of_row _ _ 0 _ _ _ hA
  have a1 : (w.alloc (.cells #[.int .u32 0, .int .u32 0] 28)).cell? ⟨w.heap.size, 1, none⟩ = some (.int .u32 0) := cell_of_row _ _ 1 _ _ _ hA
  have a2 : (w.alloc (.cells #[.int .u32 0, .int .u32 0] 28)).frozen? ⟨w.heap.size, 0, none⟩ = false := frozen_of_row _ _ 0 _ _ hA
  have a3 : (w.alloc (.cells #[.int .u32 0, .int .u32 0] 28)).frozen? ⟨w.heap.size, 1, none⟩ = false := frozen_of_row _ _ 1 _ _ hA
  have hl1 : w.heap.size < (w.alloc (.cells #[.int .u32 0, .int .u32 0] 28)).heap.size := by simp
  have HL1 : Hid (w.heap.size < (w.alloc (.cells #[.int .u32 0, .int .u32 0] 28)).heap.size) := Lib.hid hl1
  have HB0 : Hid (Below w.heap.size w (w.alloc (.cells #[.int .u32 0, .int .u32 0] 28))) := Lib.hid ((Below.refl _ _).alloc (Nat.le_refl _) _)
  have HA : Hid ((w.alloc (.cells #[.int .u32 0, .int .u32 0] 28)).heap[w.heap.size]? = some (.cells #[.int .u32 0, .int .u32 0] 28 (0, 0))) := Lib.hid hA
  clear hA a0 a1 a2 a3 hl1
  go_wp2_with (first
    | (go_at_call 11; go_loud (refine (mk11 _ _).mono ?_; rintro e w2 ⟨rfl, hb⟩; have HA2 := Lib.hid ((hb.block w.heap.size HL1.out).trans HA.out); have HL2 := Lib.hid (Nat.lt_of_lt_of_le HL1.out hb.size); have HB2 := bel2 HB0 hb; clear hb))
    | (go_at_call 10; go_loud (refine (store10 _ g s _ hf HX.out.1 HX.out.2).mono ?_; rintro e w3 ⟨rfl, hb⟩; have HA3 := Lib.hid ((hb.block w.heap.size HL2.out).trans HA2.out); have k0 : w3.cell? ⟨w.heap.size, 0, none⟩ = some (.int .u32 0) := cell_of_row _ _ 0 _ _ _ HA3.out; have k1 : w3.cell? ⟨w.heap.size, 1, none⟩ = some (.int .u32 0) := cell_of_row _ _ 1 _ _ _ HA3.out; have m0 : w3.frozen? ⟨w.heap.size, 0, none⟩ = false := frozen_of_row _ _ 0 _ _ HA3.out; have m1 : w3.frozen? ⟨w.heap.size, 1, none⟩ = false := frozen_of_row _ _ 1 _ _ HA3.out; have HB3 := bel2 HB2 hb; clear hb)))
  simp only [HF.out]
  refine bodyPost_ret (v := .agg #[.int .u32 (4294967296 - (s.size : Int)), .int .u32 x]) (by simp [results, Try.results6, go_sem, k0, k1, m0, m1]) rfl ⟨rfl, ?_⟩
  exact (HB3.out.setCell (by simp) _).setCell (by simp) _
theorem high_set {n : Nat} (h0 : 0 < n) (h1 : n ≤ 1048576) : bits .and .u32 (4294967296 - (n : Int)) 2147483648 = 2147483648 := by
  have e : (4294967296 - (n : Int)) = ((4294967296 - n : Nat) : Int) := by omega
  rw [e]
  have h2 : (BitVec.ofInt 32 ((4294967296 - n : Nat) : Int)).toNat = 4294967296 - n := by
    rw [BitVec.ofInt_natCast, BitVec.toNat_ofNat]; exact Nat.mod_eq_of_lt (by omega)
  have h3 : (BitVec.ofInt 32 (2147483648 : Int)).toNat = 2147483648 := by decide
  have h4 : (4294967296 - n) &&& 2147483648 = 2147483648 := by
    have hb : (4294967296 - n).testBit 31 = true := by
      rw [Nat.testBit_eq_decide_div_mod_eq]
      have : (4294967296 - n) / 2 ^ 31 % 2 = 1 := by omega
      rw [this]; rfl
    apply Nat.eq_of_testBit_eq
    intro i
    rw [Nat.testBit_and, show (2147483648 : Nat) = 2 ^ 31 from rfl, Nat.testBit_two_pow]
    by_cases e : 31 = i
    · subst e; simp [hb]
    · simp [e]
  show IntKind.u32.wrap (((BitVec.ofInt 32 ((4294967296 - n : Nat) : Int)) &&& (BitVec.ofInt 32 (2147483648 : Int))).toNat : Int) = _
  rw [BitVec.toNat_and, h2, h3, h4]; rfl
/-- The name is read again from the file. -/
theorem load12 (w : World) (g : Nat) (s : ByteArray) (x n y : Nat) (hy : y = x + n) (hc : w.cell? ⟨g, 60, none⟩ = some (.string s)) (h0 : 0 < n) (h1 : y ≤ s.size) (h2 : s.size ≤ 1048576) : Calls Try.prog 12 #[.pointer (some ⟨g, 0, none⟩), .agg #[.int .u32 (4294967296 - (n : Int)), .int .u32 x]] w
    (fun e w' => e = .returned (.string (s.extract x y)) ∧ Below w.heap.size w w') := by
  have HG : g < w.heap.size := block_lt_of_cell hc
  have hne : w.heap.size ≠ g := by omega
  have he1 : ((4294967296 - (n : Int)) == 2147483648) = false := by simp; omega
  have he2 : (bits .and .u32 (4294967296 - (n : Int)) 2147483648 == 0) = false := by
    rw [high_set h0 (by omega)]; rfl
  have hw1 : IntKind.i32.wrap (x : Int) = x := by rw [IntKind.wrap_i32]; omega
  have hw2 : IntKind.i32.wrap (4294967296 - (n : Int)) = -(n : Int) := by rw [IntKind.wrap_i32]; omega
  have hw3 : IntKind.i32.wrap ((x : Int) + (n : Int)) = (y : Int) := by rw [IntKind.wrap_i32]; omega
  have hk : x ≤ y := by omega
  clear h0 h2 hy
  go_enter Try.func12, Try.ntmps12
  go_wp2_with fail
  go_quiet (fail)
  go_simp
  go_wp2_with fail
  go_ret
  exact ⟨rfl, ((Below.refl _ _).alloc (Nat.le_refl _) _).trans ⟨rfl, rfl, rfl, Nat.le_refl _, fun _ _ => rfl⟩⟩
theorem load7 (w : World) (g : Nat) (s : ByteArray) (x n y : Nat) (hy : y = x + n) (hc : w.cell? ⟨g, 60, none⟩ = some (.string s)) (h0 : 0 < n) (h1 : y ≤ s.size) (h2 : s.size ≤ 1048576) : Calls Try.prog 7 #[.pointer (some ⟨g, 0, none⟩), .agg #[.int .u32 (4294967296 - (n : Int)), .int .u32 x]] w
    (fun e w' => e = .returned (.string (s.extract x y)) ∧ Below w.heap.size w w') := by
  have HG : g < w.heap.size := block_lt_of_cell hc
  have hne : w.heap.size ≠ g := by omega
  have hc2 : (w.alloc (.cells #[.int .u32 (4294967296 - (n : Int)), .int .u32 x] 28)).cell? ⟨g, 60, none⟩ = some (.string s) := ((Below.refl w.heap.size w).alloc (Nat.le_refl _) _ |>.cell (p := ⟨g, 60, none⟩) HG).trans hc
  have HB0 : Hid (Below w.heap.size w (w.alloc (.cells #[.int .u32 (4294967296 - (n : Int)), .int .u32 x] 28))) := Lib.hid ((Below.refl _ _).alloc (Nat.le_refl _) _)
  have HH := Lib.hid (And.intro hy (And.intro h0 (And.intro h1 h2)))
  clear hy h0 h1 h2
  go_enter Try.func7, Try.ntmps7
  go_wp2_with (go_at_call 12; go_loud (refine (load12 _ g s x n y HH.out.1 hc2 HH.out.2.1 HH.out.2.2.1 HH.out.2.2.2).mono ?_; rintro e w2 ⟨rfl, hb⟩; have HB2 := bel2 HB0 hb; clear hb))
  go_ret
  exact ⟨rfl, HB2.out⟩
/-- The law. -/
theorem lawBig (s : ByteArray) (x n : Nat) (w : World) (h : 1048576 < s.size) : Calls Try.prog 3 #[.string s, .int .u32 x, .int .u32 n] w fun e w' => e = .returned (.bool true) ∧ Below w.heap.size w w' := by
  go_enter Try.func3, Try.ntmps3
  go_wp2_with (go_at_call 4; go_loud (refine (bytes4f s x n h _).mono ?_; rintro e w2 ⟨rfl, rfl⟩))
  go_ret
  exact ⟨rfl, Below.refl _ _⟩
theorem lawNone (s : ByteArray) (x : Nat) (w : World) (h : s.size ≤ 1048576) : Calls Try.prog 3 #[.string s, .int .u32 x, .int .u32 0] w fun e w' => e = .returned (.bool true) ∧ Below w.heap.size w w' := by
  have hd : decide ((1048576 : Int) < (s.size : Int)) = false := by simp; omega
  have HH := Lib.hid h
  clear h
  go_enter Try.func3, Try.ntmps3
  go_wp2_with (go_at_call 4; go_loud (refine (bytes4 s x 0 HH.out _).mono ?_; rintro e w2 ⟨rfl, rfl⟩))
  go_ret
  exact ⟨rfl, Below.refl _ _⟩
theorem lawOut (s : ByteArray) (x n : Nat) (w : World) (h : s.size ≤ 1048576) (hn : 0 < n) (hx : x < 4294967296) (hn2 : n < 4294967296) (hl : s.size < x + n) : Calls Try.prog 3 #[.string s, .int .u32 x, .int .u32 n] w fun e w' => e = .returned (.bool true) ∧ Below w.heap.size w w' := by
  have hd : decide ((1048576 : Int) < (s.size : Int)) = false := by simp; omega
  have HH := Lib.hid h
  have hz : ((n : Int) == 0) = false := by simp; omega
  have hd2 : decide ((s.size : Int) < (x : Int) + (n : Int)) = true := by simp; omega
  have hws : IntKind.u64.wrap (s.size : Int) = (s.size : Int) := by rw [IntKind.wrap_u64]; omega
  have hw64 : IntKind.u64.wrap ((x : Int) + (n : Int)) = (x : Int) + (n : Int) := by rw [IntKind.wrap_u64]; omega
  clear h hl
  go_enter Try.func3, Try.ntmps3
  go_wp2_with (go_at_call 4; go_loud (refine (bytes4 s x n HH.out _).mono ?_; rintro e w2 ⟨rfl, rfl⟩))
  go_ret
  exact ⟨rfl, Below.refl _ _⟩
theorem store6n (w : World) (g : Nat) (s : ByteArray) (x n : Nat) (hn : s.size = n) (hx : x ≤ 1048576) (h0 : 0 < n) (h1 : n ≤ 1048576) : Calls Try.prog 6 #[.pointer (some ⟨g, 0, none⟩), .string s, .int .u32 x] w
    (fun e w' => e = .returned (.agg #[.int .u32 (4294967296 - (n : Int)), .int .u32 x]) ∧ Below w.heap.size w w') := by
  subst hn; exact store6 w g s x hx h0 h1
theorem lawIn (s : ByteArray) (x n y : Nat) (w : World) (h : s.size ≤ 1048576) (hn : 0 < n) (hl : y ≤ s.size) (hy : y = x + n) : Calls Try.prog 3 #[.string s, .int .u32 x, .int .u32 n] w fun e w' => e = .returned (.bool true) ∧ Below w.heap.size w w' := by
  have hd : decide ((1048576 : Int) < (s.size : Int)) = false := by simp; omega
  have hd2 : decide ((s.size : Int) < (x : Int) + (n : Int)) = false := by simp; omega
  have HH := Lib.hid h
  have hz : ((n : Int) == 0) = false := by simp; omega
  have hw : IntKind.u32.wrap ((x : Int) + (n : Int)) = (y : Int) := by rw [IntKind.wrap_u32]; omega
  have hws : IntKind.u64.wrap (s.size : Int) = (s.size : Int) := by rw [IntKind.wrap_u64]; omega
  have hw64 : IntKind.u64.wrap ((x : Int) + (n : Int)) = (x : Int) + (n : Int) := by rw [IntKind.wrap_u64]; omega
  have hwx : IntKind.u64.wrap (x : Int) = (x : Int) := by rw [IntKind.wrap_u64]; omega
  have hwn : IntKind.u64.wrap (n : Int) = (n : Int) := by rw [IntKind.wrap_u64]; omega
  have hk : x ≤ y := by omega
  have HS : Hid ((s.extract x y).size = n) := Lib.hid (by rw [ByteArray.size_extract]; omega)
  have HX : Hid (x ≤ 1048576 ∧ n ≤ 1048576 ∧ 0 < n ∧ y = x + n) := Lib.hid ⟨by omega, by omega, hn, hy⟩
  clear h hn hy
  go_enter Try.func3, Try.ntmps3
  go_wp2_with (first
    | (go_at_call 4; go_loud (refine (bytes4 s x n HH.out _).mono ?_; rintro e w1 ⟨rfl, rfl⟩))
    | (go_at_call 5; go_loud (refine (new5 _ s).mono ?_; rintro e w2 ⟨g, rfl, hg, hc, hb⟩; have HC2 := Lib.hid hc; have HB2 := Lib.hid hb; clear hc hb hg))
    | (go_at_call 6; go_loud (refine (store6n _ g (s.extract x y) x n HS.out HX.out.1 HX.out.2.2.1 HX.out.2.1).mono ?_; rintro e w3 ⟨rfl, hb⟩; have HC3 := Lib.hid ((hb.cell (p := ⟨g, 60, none⟩) (block_lt_of_cell HC2.out)).trans HC2.out); have HB3 := bel2 HB2 hb; clear hb))
    | (go_at_call 7; go_loud (refine (load7 _ g s x n y HX.out.2.2.2 (((Below.refl _ w3).alloc (Nat.le_refl _) _ |>.cell (p := ⟨g, 60, none⟩) (block_lt_of_cell HC3.out)).trans HC3.out) HX.out.2.2.1 hl HH.out).mono ?_; rintro e w4 ⟨rfl, hb⟩; have HB4 := bel2 (bel2 HB3 ((Below.refl _ w3).alloc (Nat.le_refl _) _)) hb; clear hb)))
  go_ret
  exact ⟨rfl, HB4.out⟩
theorem law (s : ByteArray) (a1 a2 : Int) (w1 : (Lit.int .u32 a1).wf = true) (w2 : (Lit.int .u32 a2).wf = true) (w : World) : Calls Try.prog 3 #[.string s, .int .u32 a1, .int .u32 a2] w fun e w' => e = .returned (.bool true) ∧ Below w.heap.size w w' := by
  have b1 : 0 ≤ a1 ∧ a1 < 4294967296 := by simp [Lit.wf, IntKind.min, IntKind.max, IntKind.signed, IntKind.bits] at w1; omega
  have b2 : 0 ≤ a2 ∧ a2 < 4294967296 := by simp [Lit.wf, IntKind.min, IntKind.max, IntKind.signed, IntKind.bits] at w2; omega
  obtain ⟨x, rfl⟩ := Int.eq_ofNat_of_zero_le b1.1
  obtain ⟨n, rfl⟩ := Int.eq_ofNat_of_zero_le b2.1
  by_cases h : 1048576 < s.size
  · exact lawBig s x n w h
  by_cases hn : n = 0
  · subst hn; exact lawNone s x w (by omega)
  by_cases hl : s.size < x + n
  · exact lawOut s x n w (by omega) (by omega) (by omega) (by omega) hl
  · exact lawIn s x n (x + n) w (by omega) (by omega) (by omega) rfl
end Go.Proofs.Ytfnicbfdfceagaa.st
