/-
  Comments: the helpers of the statement.
-/
import Derived.Test.YthhlioepgfjknaaMb
import Derived.ArgAppend
import Derived.Laws.BytesArg

namespace Go.Proofs.Ythhlioepgfjknaa.ma
open Go.ChangeShapes Go.WideShapes Go.ChangeAt Go.RowKit Go.Deep Go.Proofs.Ythhlioepgfjknaa.mk
set_option linter.unusedVariables false
set_option linter.unusedSimpArgs false
set_option maxRecDepth 100000
set_option maxHeartbeats 4000000

/-- A list of strings that is only read. -/
def Rs (w : World) (v : Value) (n : Nat) (z : Nat → ByteArray) : Prop := ∃ a c, v = .slice a n c ∧ Row w a n (fun i => .string (z i)) ∧ (a = none → n = 0 ∧ c = 0)
theorem Rs.below {w w' : World} {v : Value} {n : Nat} {z : Nat → ByteArray} (h : Rs w v n z) (hb : Below w.heap.size w w') : Rs w' v n z := by
  obtain ⟨a, c, h1, h2, h3⟩ := h
  exact ⟨a, c, h1, h2.below hb, h3⟩
theorem Rs.nil (w : World) (z : Nat → ByteArray) : Rs w (.slice none 0 0) 0 z := ⟨none, 0, rfl, fun h => by omega, fun _ => ⟨rfl, rfl⟩⟩
theorem sbeq (s t : ByteArray) : (s == t) = true ↔ s = t := bytes_beq s t
theorem equal15 (w : World) (x y : Value) (n : Nat) (z : Nat → ByteArray) (hn : n ≤ 1048576) (hx : Rs w x n z) (hy : Rs w y n z) : Calls Try.prog 15 #[x, y] w fun e w' => e = .returned (.bool true) ∧ Below w.heap.size w w' := by
  obtain ⟨a, c, rfl, hr, _⟩ := hx
  obtain ⟨b, d, rfl, hs, _⟩ := hy
  have HR := Lib.hid hr
  have HS := Lib.hid hs
  clear hr hs
  go_enter Try.func15, Try.ntmps15
  go_wp2_with fail
  go_loopw [5] (fun i wr => ∃ k : Nat, k ≤ n ∧ i = .int .i64 k ∧ Below w.heap.size w wr) (fun i _ => n - (intOf i).toNat)
  case atStart => exact ⟨0, by omega, rfl, Below.refl _ _⟩
  case round =>
    obtain ⟨k, hk, rfl, hB⟩ := hrel
    rename World => wr
    have HB := Lib.hid hB
    clear hB
    by_cases hlt : k < n
    · obtain ⟨g, off, rfl, hc⟩ := HR.out (by omega)
      obtain ⟨g', off', rfl, hc'⟩ := HS.out (by omega)
      have c1 := hc k hlt
      have c2 := hc' k hlt
      have d1 := (HB.out.cell (p := ⟨g, off + k, none⟩) (block_lt_of_cell c1)).trans c1
      have d2 := (HB.out.cell (p := ⟨g', off' + k, none⟩) (block_lt_of_cell c2)).trans c2
      have hss : (z k == z k) = true := (sbeq _ _).2 rfl
      clear hc hc' c1 c2
      go_upto_region 6 with (fail)
      go_quiet (fail)
      have HB2 : Hid (Below w.heap.size w (wr.drewN nq)) := Lib.hid ⟨HB.out.os, HB.out.tape, HB.out.output, HB.out.size, HB.out.block⟩
      clear d1 d2 HB
      go_wp2_with fail
      go_roundw
      case rel => exact ⟨k + 1, by omega, by go_num, HB2.out⟩
      case measure => simp [intOf]; omega
    · obtain rfl : k = n := by omega
      go_wp2_with fail
      go_ret
      exact ⟨rfl, HB.out⟩
theorem bytes12 (w : World) (x y : Value) (n m : Nat) (z u : Nat → ByteArray) (b1 b2 b3 : Bool) (l1 l2 : Int) (hn : n ≤ maxLen) (hm : m ≤ maxLen) (hz : ∀ i, (z i).size ≤ maxLen) (hu : ∀ i, (u i).size ≤ maxLen) (hx : Rs w x n z) (hy : Rs w y m u) :
    Calls Try.prog 12 #[x, y, .bool b1, .bool b2, .int .i32 l1, .int .i32 l2, .bool b3] w fun e w' => (e = .returned (.bool false) ∨ e = .returned (.bool true)) ∧ w = w' := by
  obtain ⟨a, c, rfl, hr, _⟩ := hx
  obtain ⟨b, d, rfl, hs, _⟩ := hy
  have HR := Lib.hid hr
  have HS := Lib.hid hs
  clear hr hs
  unfold maxLen at hn hm hz hu
  go_enter Try.func12, Try.ntmps12
  go_upto_region 7 with (fail)
  all_goals first | (go_ret; exact ⟨.inl rfl, rfl⟩) | skip
  go_wp2_with fail
  go_loop [15, 16] (fun s i => ∃ (k : Nat) (q : Int), k ≤ n ∧ 0 ≤ q ∧ q ≤ 1048576 ∧ s = .int .i64 q ∧ i = .int .i64 k) (fun _ i => n - (intOf i).toNat)
  case atStart => exact ⟨0, _, by omega, by omega, by omega, rfl, rfl⟩
  case round =>
    obtain ⟨k, q, hk, hq0, hq1, rfl, rfl⟩ := hrel
    by_cases hlt : k < n
    · obtain ⟨g, off, rfl, hc⟩ := HR.out (by omega)
      have c1 : w.cell? ⟨g, off + k, none⟩ = some (.string (z k)) := hc k hlt
      have hsz := hz k
      clear hc
      generalize z k = str at *
      by_cases g1 : str.size ≤ 1048576
      · have e1 : decide ((1048576 : Int) < (str.size : Int)) = false := by simp; omega
        have e2 : IntKind.i64.wrap (q + (str.size : Int)) = q + (str.size : Int) := Go.IntWalk.i64_in _ (by omega)
        by_cases g2 : q + (str.size : Int) ≤ 1048576
        · have e3 : decide ((1048576 : Int) < q + (str.size : Int)) = false := by simp; omega
          have g0 : 0 ≤ q + (str.size : Int) := by omega
          have G := Lib.hid (And.intro g0 g2)
          clear g0 g1 g2
          go_wp2_with fail
          go_round
          case rel => exact ⟨k + 1, _, by omega, G.out.1, G.out.2, rfl, by go_num⟩
          case measure => simp [intOf]; omega
        · have e3 : decide ((1048576 : Int) < q + (str.size : Int)) = true := by simp; omega
          clear g1 g2
          go_wp2_with fail
          go_ret
          exact ⟨.inl rfl, rfl⟩
      · have e1 : decide ((1048576 : Int) < (str.size : Int)) = true := by simp; omega
        clear g1
        go_wp2_with fail
        go_ret
        exact ⟨.inl rfl, rfl⟩
    · obtain rfl : k = n := by omega
      clear hlt hk
      go_upto_region 20 with (fail)
      all_goals first | (go_ret; exact ⟨.inl rfl, rfl⟩) | skip
      go_wp2_with fail
      go_loop [15, 17] (fun s i => ∃ (k : Nat) (q : Int), k ≤ m ∧ 0 ≤ q ∧ q ≤ 1048576 ∧ s = .int .i64 q ∧ i = .int .i64 k) (fun _ i => m - (intOf i).toNat)
      case atStart => exact ⟨0, _, by omega, by omega, by omega, rfl, rfl⟩
      case round =>
        obtain ⟨k, q, hk, hp0, hp1, rfl, rfl⟩ := hrel
        by_cases hlt : k < m
        · obtain ⟨g, off, rfl, hc⟩ := HS.out (by omega)
          have c1 : w.cell? ⟨g, off + k, none⟩ = some (.string (u k)) := hc k hlt
          have hsz := hu k
          clear hc
          generalize u k = str at *
          by_cases g1 : str.size ≤ 1048576
          · have e1 : decide ((1048576 : Int) < (str.size : Int)) = false := by simp; omega
            have e2 : IntKind.i64.wrap (q + (str.size : Int)) = q + (str.size : Int) := Go.IntWalk.i64_in _ (by omega)
            by_cases g2 : q + (str.size : Int) ≤ 1048576
            · have e3 : decide ((1048576 : Int) < q + (str.size : Int)) = false := by simp; omega
              have g0 : 0 ≤ q + (str.size : Int) := by omega
              have G := Lib.hid (And.intro g0 g2)
              clear g0 g1 g2
              go_wp2_with fail
              go_round
              case rel => exact ⟨k + 1, _, by omega, G.out.1, G.out.2, rfl, by go_num⟩
              case measure => simp [intOf]; omega
            · have e3 : decide ((1048576 : Int) < q + (str.size : Int)) = true := by simp; omega
              clear g1 g2
              go_wp2_with fail
              go_ret
              exact ⟨.inl rfl, rfl⟩
          · have e1 : decide ((1048576 : Int) < (str.size : Int)) = true := by simp; omega
            clear g1
            go_wp2_with fail
            go_ret
            exact ⟨.inl rfl, rfl⟩
        · obtain rfl : k = m := by omega
          clear hlt hk
          go_wp2_with fail
          go_ret
          exact ⟨.inr rfl, rfl⟩

theorem Sl.base_le {w : World} {B n : Nat} {a : Option Addr} {c : Nat} {z : Nat → ByteArray} (h : Sl w B (.slice a n c) n z) : ∀ x, a = some x → B ≤ x.block := by
  rintro x rfl
  rcases h.2 with ⟨h1, h2⟩ | ⟨g, cap, cur, hv, hg, _⟩
  · cases h1
  · cases hv; exact hg
/-- One list appended to another that has no room to spare: nothing that was there changes. -/
theorem app0 (w : World) (a b : Option Addr) (n m c : Nat) (z y : Nat → ByteArray) (hx : Row w a n (fun i => .string (z i))) (ha : a = none → n = 0) (hy : Row w b m (fun i => .string (y i))) (hb : b = none → m = 0) (hn : n + m ≤ 1048576) :
    ∃ v' w', (Builtin.append_ #[37, 37] 37 #[.slice a n n, .slice b m c]).run Try.prog w = .ok v' w' ∧ Rs w' v' (n + m) (cat z n y) ∧ Below w.heap.size w w' ∧ ∀ x k c, v' = .slice (some x) k c → a = some x ∨ w.heap.size ≤ x.block := by
  obtain ⟨i, z0, e1, e2, e3, e4, e5⟩ := info9i
  have hcat : ∀ i, i < n → z i = cat z n y i := fun i hi => by unfold cat; rw [if_pos hi]
  by_cases h0 : m = 0
  · subst h0
    refine ⟨.slice a n n, w, ?_, ⟨a, n, rfl, fun h => ?_, fun h => ⟨by have := ha h; omega, ha h⟩⟩, Below.refl _ _, fun x k c h => .inl (by cases h; rfl)⟩
    · cases a <;> cases b <;> simp [Builtin.append_, run_underlying Try.underlying37, sizeOf, typeInfo, e1, Builtin.lenOf, Builtin.firstCells, storeCells, loadCells, loadCellsFrom]
    · obtain ⟨g, off, e, hc⟩ := hx (by omega)
      exact ⟨g, off, e, fun i hi => (hc i (by omega)).trans (by show some (Value.string (z i)) = some (Value.string (cat z n y i)); rw [hcat i (by omega)])⟩
  · obtain ⟨g, off, rfl, hc⟩ := hy (by omega)
    have hnews : ∀ j u, (strs m y)[j]? = some u → w.cell? ((⟨g, off, none⟩ : Addr).add j) = some u := by
      intro j u hu
      by_cases hj : j < m
      · rw [strs_get hj] at hu
        rw [Go.WideShapes.add_plain, hc j hj]
        exact hu
      · rw [List.getElem?_eq_none (by rw [strs_len]; omega)] at hu
        cases hu
    have fin : ∀ v' w', w'.ownsRow w.heap.size 9 1 v' (n + m) (strs n z ++ strs m y) → w.grownBy w' none → Rs w' v' (n + m) (cat z n y) ∧ Below w.heap.size w w' ∧ ∀ x k c, v' = .slice (some x) k c → a = some x ∨ w.heap.size ≤ x.block := fun v' w' h1 h2 => by
      rw [strs_cat] at h1
      obtain ⟨a, c, r1, r2, r3⟩ := Sl.form (B := w.heap.size) h1
      refine ⟨⟨a, c, r1, r2, r3⟩, ⟨h2.os, h2.tape, h2.output, h2.size, fun k hk => h2.block k hk (by simp)⟩, fun x k c' h => .inr ?_⟩
      subst r1
      cases h
      exact Sl.base_le (z := cat z n y) h1 x rfl
    cases a with
    | none =>
      have hn0 := ha rfl
      subst hn0
      obtain ⟨v', w', h1, h2, h3, -, -⟩ := run_append_own_at (P := Try.prog) w w.heap.size 37 37 9 i z0 1 16 Try.underlying37 e1 e2 e4 e5 e3 (by decide) (.slice none 0 0) 0 (strs 0 z) ⟨by simp [strs], .inl ⟨rfl, rfl⟩⟩ ⟨g, off, none⟩ m c (strs m y) (by rw [strs_len]; omega) hnews (strs_one m y) (by unfold maxLen; omega) (by omega) (Nat.le_refl _)
      exact ⟨v', w', h1, fin v' w' h2 h3⟩
    | some ad =>
      have holds : ∀ j u, (strs n z)[j]? = some u → w.cell? (ad.add j) = some u := by
        intro j u hu
        by_cases hj : j < n
        · obtain ⟨g', off', e, hc'⟩ := hx (by omega)
          cases e
          rw [strs_get hj] at hu
          rw [Go.WideShapes.add_plain, hc' j hj]
          exact hu
        · rw [List.getElem?_eq_none (by rw [strs_len]; omega)] at hu
          cases hu
      obtain ⟨v', w', h1, h2, h3⟩ := run_append_arg_grows (P := Try.prog) (w := w) 37 37 9 i z0 1 16 Try.underlying37 e1 e2 e4 e5 e3 (by decide) ad n n (strs n z) (by rw [strs_len]; omega) holds ⟨g, off, none⟩ m c (strs m y) (by rw [strs_len]; omega) hnews (by omega) (by unfold maxLen; omega) (by omega)
      exact ⟨v', w', h1, fin v' w' h2 h3⟩
theorem put_one {n : Nat} {z : Nat → ByteArray} {s : ByteArray} (h : z n = s) : ∀ i, i < n + 1 → cat z n (fun _ => s) i = z i := by
  intro i hi
  unfold cat
  by_cases h1 : i < n
  · rw [if_pos h1]
  · obtain rfl : i = n := by omega
    rw [if_neg h1, h]
theorem cat_at (z : Nat → ByteArray) (n : Nat) (u : Nat → ByteArray) (k : Nat) : cat z n u (n + k) = u k := by
  unfold cat
  rw [if_neg (by omega), Nat.add_sub_cancel_left]
theorem Sl.congr {w : World} {B n : Nat} {v : Value} {z y : Nat → ByteArray} (h : Sl w B v n z) (e : ∀ i, i < n → z i = y i) : Sl w B v n y := by
  unfold Sl
  rw [← strs_congr e]
  exact h
theorem mk37 (w : World) (k : Nat) (hk : k ≤ 1048576) : ∃ v w', (Instr.makeSlice 37 (.int .i64 0) (.int .i64 k)).run Try.prog w = .ok v w' ∧ Sl w' w.heap.size v 0 (fun _ => ByteArray.empty) ∧ Below w.heap.size w w' := by
  obtain ⟨i, z0, e1, e2, e3, e4, e5⟩ := info9i
  have hr := run_make (P := Try.prog) w 37 9 i z0 Try.underlying37 e1 e2 .i64 .i64 0 k (by omega) (by omega) (by rw [e5]; omega) (by omega)
  refine ⟨_, _, hr, ⟨by simp [strs], .inr ⟨w.heap.size, k, madeCells z0.cells (k * i.size), rfl, Nat.le_refl _, heap_alloc_new _ _, by omega, by unfold maxLen; omega, by rw [size_madeCells, e4], by simp [strs]⟩⟩, (Below.refl _ _).alloc (Nat.le_refl _) _⟩
/-- The concatenation of two lists. -/
theorem concat16 (w : World) (x y : Value) (n m : Nat) (z u : Nat → ByteArray) (hn : n + m ≤ 1048576) (hx : Rs w x n z) (hy : Rs w y m u) : Calls Try.prog 16 #[x, y] w fun e w' => ∃ v, e = .returned v ∧ Rs w' v (n + m) (cat z n u) ∧ Below w.heap.size w w' := by
  obtain ⟨a, c, rfl, hr, _⟩ := hx
  obtain ⟨b, d, rfl, hs, _⟩ := hy
  have HR := Lib.hid hr
  have HS := Lib.hid hs
  clear hr hs
  obtain ⟨v0, w0, hmk, hS0, hB0⟩ := mk37 w (n + m) hn
  have e0 : IntKind.i64.wrap ((n : Int) + (m : Int)) = (n : Int) + (m : Int) := Go.IntWalk.i64_in _ (by omega)
  rw [show (((n + m : Nat) : Nat) : Int) = (n : Int) + (m : Int) by omega] at hmk
  have HS0 := Lib.hid hS0
  have HB0 := Lib.hid hB0
  clear hS0 hB0
  go_enter Try.func16, Try.ntmps16
  go_wp2_with fail
  clear hmk e0
  go_loopw [5, 6] (fun v i wr => ∃ k : Nat, k ≤ n ∧ i = .int .i64 k ∧ Sl wr w.heap.size v k z ∧ Below w.heap.size w wr) (fun _ i _ => n - (intOf i).toNat)
  case atStart => exact ⟨0, by omega, rfl, HS0.out.congr fun i hi => by omega, HB0.out⟩
  case round =>
    obtain ⟨k, hk, rfl, hS, hB⟩ := hrel
    rename World => wr
    rename Value => v
    have HSv := Lib.hid hS
    have HB := Lib.hid hB
    clear hS hB HS0 HB0
    by_cases hlt : k < n
    · obtain ⟨g, off, rfl, hc⟩ := HR.out (by omega)
      have c1 : w.cell? ⟨g, off + k, none⟩ = some (.string (z k)) := hc k hlt
      have d1 := (HB.out.cell (p := ⟨g, off + k, none⟩) (block_lt_of_cell c1)).trans c1
      have hg : g < wr.heap.size := block_lt_of_cell d1
      clear hc c1
      obtain ⟨i9, z9, e1, e2, e3, e4, e5⟩ := info9i
      have hr1 : Hid (∀ j x, (strs 1 (fun _ => z k))[j]? = some x → (wr.alloc (.cells #[.string (z k)] 9)).cell? ((⟨wr.heap.size, 0, none⟩ : Addr).add j) = some x) := Lib.hid (by
        intro j x hu
        by_cases hj : j < 1
        · obtain rfl : j = 0 := by omega
          rw [strs_get (by omega)] at hu
          rw [Go.WideShapes.add_plain]
          exact ((cell_of_row _ _ 0 _ _ _ (heap_alloc_new _ _)).trans rfl).trans hu
        · rw [List.getElem?_eq_none (by rw [strs_len]; omega)] at hu
          cases hu)
      have HSX := Lib.hid (HSv.out.below ((Below.refl _ _).alloc (Nat.le_refl _) (.cells #[.string (z k)] 9)))
      have hbw : w.heap.size ≤ (wr.alloc (.cells #[.string (z k)] 9)).heap.size := by have := HB.out.size; simp; omega
      go_wp2_with (at_builtin; refine wpList_append_own_at _ rfl (.tmp 20) (.tmp 25) 37 rfl w.heap.size 9 i9 z9 1 16 Try.underlying37 e1 e2 e4 e5 e3 (by decide) u5 (k) _ rfl HSX.out ⟨wr.heap.size, 0, none⟩ 1 1 (strs 1 (fun _ => z k)) rfl (by simp [strs]) hr1.out (strs_one _ _) (by unfold maxLen; omega) (by omega) hbw ?_; intro v' w' hS' hgr hno hno2; clear hno hno2; rw [strs_cat] at hS')
      have HB2 : Hid (Below w.heap.size w w') := Lib.hid ((HB.out.alloc HB.out.size _).trans (Below.mono ⟨hgr.os, hgr.tape, hgr.output, hgr.size, fun q hq => hgr.block q (by have := HB.out.size; simp; omega) (fun e => by have := (HSv.out.own e.symm).1; omega)⟩ (Nat.le_refl _)))
      have HS2 := Lib.hid (Sl.congr (B := w.heap.size) hS' (put_one rfl))
      clear hS' hgr HB HSv
      go_roundw
      case rel => exact ⟨k + 1, by omega, by go_num, HS2.out, HB2.out⟩
      case measure => simp [intOf]; omega
    · obtain rfl : k = n := by omega
      clear hlt hk
      have HS3 : Hid (Sl wr w.heap.size u5 (k + 0) (cat z k u)) := Lib.hid (HSv.out.congr fun i hi => by unfold cat; rw [if_pos hi])
      have HB3 := HB
      clear HSv HB
      generalize u5 = vv at *
      generalize wr = W1 at *
      go_wp2_with fail
      go_loopw [5, 7] (fun v i wr => ∃ j : Nat, j ≤ m ∧ i = .int .i64 j ∧ Sl wr w.heap.size v (k + j) (cat z k u) ∧ Below w.heap.size w wr) (fun _ i _ => m - (intOf i).toNat)
      case atStart => exact ⟨0, by omega, rfl, HS3.out, HB3.out⟩
      case round =>
        obtain ⟨j, hj, rfl, hS, hB⟩ := hrel
        rename World => wr
        have HSv := Lib.hid hS
        have HB := Lib.hid hB
        clear hS hB HS3 HB3
        by_cases hlt : j < m
        · obtain ⟨g, off, rfl, hc⟩ := HS.out (by omega)
          have c1 : w.cell? ⟨g, off + j, none⟩ = some (.string (u j)) := hc j hlt
          have d1 := (HB.out.cell (p := ⟨g, off + j, none⟩) (block_lt_of_cell c1)).trans c1
          have hg : g < wr.heap.size := block_lt_of_cell d1
          clear hc c1
          obtain ⟨i9, z9, e1, e2, e3, e4, e5⟩ := info9i
          have hr1 : Hid (∀ i x, (strs 1 (fun _ => u j))[i]? = some x → (wr.alloc (.cells #[.string (u j)] 9)).cell? ((⟨wr.heap.size, 0, none⟩ : Addr).add i) = some x) := Lib.hid (by
            intro i x hu
            by_cases hi : i < 1
            · obtain rfl : i = 0 := by omega
              rw [strs_get (by omega)] at hu
              rw [Go.WideShapes.add_plain]
              exact ((cell_of_row _ _ 0 _ _ _ (heap_alloc_new _ _)).trans rfl).trans hu
            · rw [List.getElem?_eq_none (by rw [strs_len]; omega)] at hu
              cases hu)
          have HSX := Lib.hid (HSv.out.below ((Below.refl _ _).alloc (Nat.le_refl _) (.cells #[.string (u j)] 9)))
          have hbw : w.heap.size ≤ (wr.alloc (.cells #[.string (u j)] 9)).heap.size := by have := HB.out.size; simp; omega
          go_wp2_with (at_builtin; refine wpList_append_own_at _ rfl (.tmp 33) (.tmp 38) 37 rfl w.heap.size 9 i9 z9 1 16 Try.underlying37 e1 e2 e4 e5 e3 (by decide) u5 (k + j) _ rfl HSX.out ⟨wr.heap.size, 0, none⟩ 1 1 (strs 1 (fun _ => u j)) rfl (by simp [strs]) hr1.out (strs_one _ _) (by unfold maxLen; omega) (by omega) hbw ?_; intro v' w' hS' hgr hno hno2; clear hno hno2; rw [strs_cat] at hS')
          have HB2 : Hid (Below w.heap.size w w') := Lib.hid ((HB.out.alloc HB.out.size _).trans (Below.mono ⟨hgr.os, hgr.tape, hgr.output, hgr.size, fun q hq => hgr.block q (by have := HB.out.size; simp; omega) (fun e => by have := (HSv.out.own e.symm).1; omega)⟩ (Nat.le_refl _)))
          have HS2 := Lib.hid (Sl.congr (B := w.heap.size) hS' (put_one (cat_at z k u j)))
          clear hS' hgr HB HSv
          go_roundw
          case rel => exact ⟨j + 1, by omega, by go_num, HS2.out, HB2.out⟩
          case measure => simp [intOf]; omega
        · obtain rfl : j = m := by omega
          go_wp2_with fail
          go_ret
          obtain ⟨a', c', r1, r2, r3⟩ := HSv.out.form
          exact ⟨_, rfl, ⟨a', c', r1, r2, r3⟩, HB.out⟩
end Go.Proofs.Ythhlioepgfjknaa.ma
