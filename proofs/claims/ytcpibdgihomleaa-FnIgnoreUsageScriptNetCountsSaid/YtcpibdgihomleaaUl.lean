/-
  The walk of FnIgnoreUsageScriptNetCounts.
-/
import Derived.Test.YtcpibdgihomleaaUr
namespace Go.Proofs.Ytcpibdgihomleaa.us
open Go.ChangeShapes Go.WideShapes Go.ChangeAt Go.RowKit Go.Deep Go.Proofs.Ytcpibdgihomleaa.mk
set_option linter.unusedVariables false
set_option linter.unusedSimpArgs false
/-- A slice of n elements, V i at place i; of an empty one nothing is said. -/
def Row (w : World) (a : Option Addr) (n : Nat) (V : Nat → Value) : Prop := 0 < n → ∃ b off, a = some ⟨b, off, none⟩ ∧ ∀ i, i < n → w.cell? ⟨b, off + i, none⟩ = some (V i)
theorem Row.below {w w' : World} {a : Option Addr} {n : Nat} {V : Nat → Value} (h : Row w a n V) (hb : Below w.heap.size w w') : Row w' a n V := by
  intro h0
  obtain ⟨b, off, rfl, hc⟩ := h h0
  refine ⟨b, off, rfl, fun i hi => ?_⟩
  have h1 := hc i hi
  exact (hb.cell (p := ⟨b, off + i, none⟩) (block_lt_of_cell h1)).trans h1
theorem Row.of_cells {w : World} {a : Addr} {n m : Nat} {V : Nat → Value} (hn : n ≤ m) (h : ∀ i, i < m → w.cell? (a.add i) = some (V i)) : Row w (some a) n V := by
  intro h0
  obtain ⟨b, off, spot⟩ := a
  have hspot : spot = none := by simpa [Addr.add] using World.cell?_spot (h 0 (by omega))
  subst hspot
  exact ⟨b, off, rfl, fun j hj => by rw [← Go.WideShapes.add_plain]; exact h j (by omega)⟩
theorem wf_zero (k : IntKind) : (Lit.int k 0).wf = true := by cases k <;> decide
/-- What a walk is told of a slice of integers that came in. -/
def IsInts (k : IntKind) (w : World) (a : Option Addr) (len cap : Nat) (Z : Nat → Int) : Prop :=
  (a = none → len = 0 ∧ cap = 0) ∧ len ≤ maxLen ∧ Row w a len (fun i => .int k (Z i)) ∧ ∀ i, (Lit.int k (Z i)).wf = true
theorem IsInts.nil (k : IntKind) (w : World) : IsInts k w none 0 0 (fun _ => 0) := ⟨fun _ => ⟨rfl, rfl⟩, by unfold maxLen; omega, fun h => by omega, fun i => wf_zero k⟩
theorem IsInts.mk {k : IntKind} {w : World} {a : Addr} {len cap : Nat} {zs : List Int} (hl : len ≤ cap) (hm : cap ≤ maxLen) (hz : zs.length = cap)
    (h : ∀ i, i < zs.length → w.cell? (a.add i) = some (.int k (zs.getD i 0))) (hwz : ∀ n ∈ zs, (Lit.int k n).wf = true) : IsInts k w (some a) len cap (fun i => zs.getD i 0) := by
  refine ⟨by simp, by omega, Row.of_cells (V := fun i => .int k (zs.getD i 0)) (by omega) h, fun i => ?_⟩
  show (Lit.int k (zs.getD i 0)).wf = true
  rw [List.getD_eq_getElem?_getD]
  cases e : zs[i]? with
  | none => exact wf_zero k
  | some s => exact hwz s (List.mem_of_getElem? e)

def SomeBool (w : World) (e : Ending) (w' : World) : Prop := (∃ b, e = .returned (.bool b)) ∧ w = w'
def Yes (w : World) (e : Ending) (w' : World) : Prop := e = .returned (.bool true) ∧ Below w.heap.size w w'
theorem bytes4 (w : World) (n : Int) (a : Option Addr) (len cap : Nat) (x y z : Bool) : Calls Try.prog 4 #[.int .i64 n, .slice a len cap, .bool x, .bool y, .bool z] w (SomeBool w) := by
  go_enter Try.func4, Try.ntmps4
  go_wp2
  all_goals (go_ret; exact ⟨⟨_, rfl⟩, rfl⟩)
def recTo (V : Nat → Int) : Nat → Nat → Nat
  | 0, _ => 0
  | j + 1, i => recTo V j i + if V j = (i : Int) then 1 else 0
def ignTo (V : Nat → Int) : Nat → Nat → Nat
  | 0, _ => 0
  | j + 1, i => ignTo V j i + if V j = -((i : Int) + 1) then 1 else 0
theorem recTo_le (V : Nat → Int) (j i : Nat) : recTo V j i ≤ j := by
  induction j with
  | zero => simp [recTo]
  | succ j ih => simp only [recTo]; split <;> omega
theorem ignTo_le (V : Nat → Int) (j i : Nat) : ignTo V j i ≤ j := by
  induction j with
  | zero => simp [ignTo]
  | succ j ih => simp only [ignTo]; split <;> omega
def okTo (V : Nat → Int) (n j : Nat) : Prop := ∀ t, t < j → ∃ k : Nat, k < n ∧ (V t = (k : Int) ∨ (V t = -((k : Int) + 1) ∧ ignTo V t k < recTo V t k))
theorem okTo.le {V : Nat → Int} {n j : Nat} (h : okTo V n j) : ∀ i, ignTo V j i ≤ recTo V j i := by
  induction j with
  | zero => intro i; simp [ignTo, recTo]
  | succ j ih =>
    intro i
    have h1 := ih (fun t ht => h t (by omega)) i
    obtain ⟨k, hk, hv⟩ := h j (by omega)
    simp only [ignTo, recTo]
    rcases hv with hv | ⟨hv, hlt⟩
    · rw [hv, if_neg (show ¬ ((k : Int) = -((i : Int) + 1)) by omega)]; omega
    · by_cases e : i = k
      · subst e
        rw [hv, if_pos rfl]; omega
      · rw [hv, if_neg (show ¬ (-((k : Int) + 1) = -((i : Int) + 1)) by omega)]; omega
theorem okTo.mono {V : Nat → Int} {n j j' : Nat} (h : okTo V n j) (hj : j' ≤ j) : okTo V n j' := fun t ht => h t (by omega)
theorem recTo_inc {V : Nat → Int} {j k : Nat} (h : V j = (k : Int)) : recTo V (j + 1) = inc (recTo V j) k (recTo V j k + 1) := by
  funext i
  simp only [recTo, inc]
  by_cases e : i = k
  · subst e; rw [if_pos rfl, h, if_pos rfl]
  · rw [if_neg e, if_neg (by omega)]; rfl
theorem ignTo_same {V : Nat → Int} {j k : Nat} (h : V j = (k : Int)) : ignTo V (j + 1) = ignTo V j := by
  funext i
  simp only [ignTo]
  rw [if_neg (by omega)]; rfl
theorem ignTo_inc {V : Nat → Int} {j k : Nat} (h : V j = -((k : Int) + 1)) : ignTo V (j + 1) = inc (ignTo V j) k (ignTo V j k + 1) := by
  funext i
  simp only [ignTo, inc]
  by_cases e : i = k
  · subst e; rw [if_pos rfl, h, if_pos rfl]
  · rw [if_neg e, if_neg (by omega)]; rfl
theorem recTo_same {V : Nat → Int} {j k : Nat} (h : V j = -((k : Int) + 1)) : recTo V (j + 1) = recTo V j := by
  funext i
  simp only [recTo]
  rw [if_neg (by omega)]; rfl
def net (V : Nat → Int) (j i : Nat) : Nat := recTo V j i - ignTo V j i
def uz (dead : Bool) (V : Nat → Int) (j : Nat) : Nat → Nat := if dead then fun _ => 0 else net V j
def tz (ts : Bool) (V : Nat → Int) (j : Nat) : Nat → Nat := if ts then recTo V j else fun _ => 0
theorem uz_rec {dead : Bool} {V : Nat → Int} {n j k : Nat} (ho : okTo V n j) (h : V j = (k : Int)) : up dead (uz dead V j) k (uz dead V j k + 1) = uz dead V (j + 1) := by
  cases dead
  · funext i
    simp only [up, uz, net, Bool.false_eq_true, if_false, ignTo_same h, recTo_inc h, inc]
    have := ho.le k
    by_cases e : i = k
    · subst e; rw [if_pos rfl, if_pos rfl]; omega
    · rw [if_neg e, if_neg e]
  · rfl
theorem uz_ign {dead : Bool} {V : Nat → Int} {n j k : Nat} (ho : okTo V n j) (h : V j = -((k : Int) + 1)) : up dead (uz dead V j) k (uz dead V j k - 1) = uz dead V (j + 1) := by
  cases dead
  · funext i
    simp only [up, uz, net, Bool.false_eq_true, if_false, recTo_same h, ignTo_inc h, inc]
    by_cases e : i = k
    · subst e; rw [if_pos rfl, if_pos rfl]; omega
    · rw [if_neg e, if_neg e]
  · rfl
theorem tz_rec {ts : Bool} {V : Nat → Int} {j k : Nat} (h : V j = (k : Int)) : up (!ts) (tz ts V j) k (tz ts V j k + 1) = tz ts V (j + 1) := by
  cases ts
  · rfl
  · simp only [up, tz, Bool.not_true, Bool.false_eq_true, if_false, if_true, recTo_inc h]
theorem tz_ign {ts : Bool} {V : Nat → Int} {j k : Nat} (h : V j = -((k : Int) + 1)) : tz ts V j = tz ts V (j + 1) := by
  cases ts
  · rfl
  · simp only [tz, if_true, recTo_same h]
theorem uz_le (dead : Bool) (V : Nat → Int) (j i : Nat) : uz dead V j i ≤ j := by
  cases dead
  · have := recTo_le V j i; simp [uz, net]; omega
  · simp [uz]
theorem tz_le (ts : Bool) (V : Nat → Int) (j i : Nat) : tz ts V j i ≤ j := by
  cases ts
  · simp [tz]
  · exact recTo_le V j i
theorem uz_zero (dead : Bool) (V : Nat → Int) : uz dead V 0 = fun _ => 0 := by
  cases dead <;> funext i <;> simp [uz, net, recTo, ignTo]
theorem tz_zero (ts : Bool) (V : Nat → Int) : tz ts V 0 = fun _ => 0 := by
  cases ts <;> funext i <;> simp [tz, recTo]
theorem Col.zero0 (w : World) (n : Nat) (h : 0 = 0) : Col (w.alloc (.cells (madeCells #[.int .u32 0] n) 25)) w.heap.size n (fun i => i) (fun _ => 0) :=
  colz (heap_alloc_new w _) (fun _ _ h => h) (fun i hi => madez_get n i hi)
theorem Col.inI {w : World} {b n : Nat} {U : Nat → Nat} (h : Col w b n (fun i => i) U) {i : Nat} (hi : i < n) {x : Int} {y : Nat} (e : x = y) : Col (w.setCell ⟨b, i, none⟩ (.int .u32 x)) b n (fun i => i) (inc U i y) := by subst e; exact h.set hi y
/-- The two tables of the statement. -/
def Two (w : World) (B n : Nat) (V : Nat → Int) (j : Nat) : Prop := Col w B n (fun i => i) (recTo V j) ∧ Col w (B + 1) n (fun i => i) (ignTo V j) ∧ B + 2 ≤ w.heap.size
theorem Two.keep {w w' : World} {B n : Nat} {V : Nat → Int} {j : Nat} (h : Two w B n V j) {F : Nat → Prop} (ht : Touch F w w') (hF : ∀ k, F k → B + 2 ≤ k) : Two w' B n V j := by
  obtain ⟨h1, h2, h3⟩ := h
  exact ⟨h1.of_block (ht.block _ (by omega) (fun f => by have := hF _ f; omega)), h2.of_block (ht.block _ (by omega) (fun f => by have := hF _ f; omega)), Nat.le_trans h3 ht.size⟩
theorem cnt_uz_true (V : Nat → Int) (j n : Nat) : cnt (uz true V j) n = 0 := cnt_zero n

theorem St.drewN {w : World} {g n : Nat} {dead ts pt : Bool} {U C E : Nat → Nat} (h : St w g n dead ts pt U C E) (q : Nat) : St (w.drewN q) g n dead ts pt U C E :=
  h.keep (F := fun _ => False) ⟨rfl, rfl, rfl, Nat.le_refl _, fun _ _ _ => rfl⟩ (fun _ _ _ h => h)
theorem Two.drewN {w : World} {B n : Nat} {V : Nat → Int} {j : Nat} (h : Two w B n V j) (q : Nat) : Two (w.drewN q) B n V j := h
theorem Below.drewN' {B : Nat} {a w : World} (h : Below B a w) (q : Nat) : Below B a (w.drewN q) := ⟨h.os, h.tape, h.output, h.size, h.block⟩
def dz (dead pt : Bool) (V : Nat → Int) (j i : Nat) : Nat := if pt then cnt (uz dead V j) i else 0
theorem dz_le (dead pt : Bool) (V : Nat → Int) (j : Nat) : ∀ i, dz dead pt V j i ≤ i := by
  cases pt
  · intro i; simp [dz]
  · intro i
    simp only [dz, if_true]
    induction i with
    | zero => simp [cnt]
    | succ i ih => simp only [cnt]; split <;> omega
theorem dz_succ (dead pt : Bool) (V : Nat → Int) (j i x : Nat) (h : uz dead V j i = x) : dz dead pt V j (i + 1) = dz dead pt V j i + if pt = true ∧ x ≠ 0 then 1 else 0 := by
  cases pt
  · simp [dz]
  · simp only [dz, if_true, cnt, h]
    by_cases e : x = 0 <;> simp [e]

set_option maxRecDepth 100000 in
set_option maxHeartbeats 16000000 in
theorem main3 (w : World) (a0 : Int) (hw0 : (Lit.int .i64 a0).wf = true) (a1 : Option Addr) (len cap : Nat) (V : Nat → Int) (hI : IsInts .i32 w a1 len cap V) (dead ts pt : Bool) :
    Calls Try.prog 3 #[.int .i64 a0, .slice a1 len cap, .bool dead, .bool ts, .bool pt] w (Yes w) := by
  have HI := Lib.hid hI
  clear hI
  have hr0 : -9223372036854775808 ≤ a0 ∧ a0 ≤ 9223372036854775807 := by simpa [Lit.wf, IntKind.min, IntKind.max, IntKind.signed, IntKind.bits] using hw0
  clear hw0
  go_enter Try.func3, Try.ntmps3
  go_wp2_with fail
  refine (bytes4 w a0 a1 len cap dead ts pt).mono ?_
  rintro e w' ⟨⟨b, rfl⟩, rfl⟩
  cases b
  · go_simp
    go_wp2_with fail
    go_ret
    exact ⟨rfl, Below.refl _ _⟩
  by_cases g1 : len ≤ 65536
  rotate_left
  · have t1 : decide ((65536 : Int) < (len : Int)) = true := by simp; omega
    clear g1
    go_simp
    go_wp2_with fail
    go_ret
    exact ⟨rfl, Below.refl _ _⟩
  have t1 : decide ((65536 : Int) < (len : Int)) = false := by simp; omega
  by_cases g2 : 1 ≤ a0
  rotate_left
  · have t2 : decide (a0 < 1) = true := by simp; omega
    clear g1 g2 hr0
    go_simp
    go_wp2_with fail
    go_ret
    exact ⟨rfl, Below.refl _ _⟩
  have t2 : decide (a0 < 1) = false := by simp; omega
  by_cases g3 : a0 ≤ 4096
  rotate_left
  · have t3 : decide (4096 < a0) = true := by simp; omega
    clear g1 g2 g3 hr0
    go_simp
    go_wp2_with fail
    go_ret
    exact ⟨rfl, Below.refl _ _⟩
  have t3 : decide (4096 < a0) = false := by simp; omega
  obtain ⟨n, rfl⟩ : ∃ n : Nat, a0 = (n : Int) := ⟨a0.toNat, by omega⟩
  have hn : n ≤ 4096 := by omega
  have h24 := made24 n hn
  clear g2 g3 hr0
  go_simp
  go_wp2_with fail
  have TW : Hid (Two ((w.alloc (.cells (madeCells #[.int .u32 0] n) 25)).alloc (.cells (madeCells #[.int .u32 0] n) 25)) w.heap.size n V 0) := Lib.hid ⟨(Col.zero0 w n rfl).of_block (Below.heap_alloc _ _ _ (by simp)), by have := Col.zero0 (w.alloc (.cells (madeCells #[.int .u32 0] n) 25)) n rfl; rw [show (w.alloc (.cells (madeCells #[Value.int .u32 0] n) 25)).heap.size = w.heap.size + 1 by simp] at this; exact this, by simp⟩
  have BW : Hid (Below w.heap.size w ((w.alloc (.cells (madeCells #[.int .u32 0] n) 25)).alloc (.cells (madeCells #[.int .u32 0] n) 25))) := Lib.hid (((Below.refl _ _).alloc (Nat.le_refl _) _).alloc (by simp) _)
  clear h24 t1 t2 t3
  generalize ((w.alloc (.cells (madeCells #[.int .u32 0] n) 25)).alloc (.cells (madeCells #[.int .u32 0] n) 25)) = w1 at *
  go_loopw [50] (fun i wr => ∃ j : Nat, j ≤ len ∧ i = .int .i64 j ∧ Two wr w.heap.size n V j ∧ okTo V n j ∧ Below w.heap.size w wr) (fun i _ => len - (intOf i).toNat)
  case atStart => exact ⟨0, by omega, rfl, TW.out, fun t ht => by omega, BW.out⟩
  case round =>
    clear TW BW
    obtain ⟨j, hj, rfl, hTw, hOk, hBl⟩ := hrel
    have TW := Lib.hid hTw
    have OK := Lib.hid hOk
    have BW := Lib.hid hBl
    clear hTw hOk hBl
    by_cases hlt : j < len
    · have hv : -2147483648 ≤ V j ∧ V j ≤ 2147483647 := by simpa [Lit.wf, IntKind.min, IntKind.max, IntKind.signed, IntKind.bits] using HI.out.2.2.2 j
      obtain ⟨b, off, e, hcell⟩ := (HI.out.2.2.1.below BW.out) (by omega)
      cases e
      have c1 : wr.cell? ⟨b, off + j, none⟩ = some (.int .i32 (V j)) := hcell j hlt
      clear hcell
      generalize hx : V j = x at c1 hv
      have HX := Lib.hid hx
      clear hx
      by_cases h0 : 0 ≤ x
      · have s0 : decide ((0 : Int) ≤ x) = true := by simpa using h0
        obtain ⟨k, rfl⟩ : ∃ k : Nat, x = (k : Int) := ⟨x.toNat, by omega⟩
        by_cases hkn : k < n
        · have s1 : decide (n ≤ k) = false := by simp; omega
          have c2 := (TW.out.1.2 k hkn).1
          have f2 := (TW.out.1.2 k hkn).2
          simp only at c2 f2
          have hrl := recTo_le V j k
          clear s0 h0
          go_wp2
          go_roundw
          case rel =>
            refine ⟨j + 1, by omega, by go_num, ⟨?_, ?_, ?_⟩, ?_, BW.out.setCell (Nat.le_refl _) _⟩
            · rw [recTo_inc HX.out]; exact TW.out.1.inI hkn (by omega)
            · rw [ignTo_same HX.out]; exact TW.out.2.1.of_block (Below.heap_setCell _ _ _ _ (by simp))
            · simpa using TW.out.2.2
            · intro t ht
              by_cases e : t = j
              · subst e; exact ⟨k, hkn, .inl HX.out⟩
              · exact OK.out t (by omega)
          case measure => simp [intOf]; omega
        · have s1 : decide (n ≤ k) = true := by simp; omega
          clear s0 h0
          go_wp2
          go_ret
          exact ⟨rfl, BW.out⟩
      · have s0 : decide ((0 : Int) ≤ x) = false := by simpa using h0
        obtain ⟨k, hk⟩ : ∃ k : Nat, -(x + 1) = (k : Int) := ⟨(-(x + 1)).toNat, by omega⟩
        have HK := Lib.hid hk
        by_cases hkn : k < n
        · have s1 : decide ((n : Int) ≤ -(x + 1)) = false := by simp; omega
          have c2 := (TW.out.1.2 k hkn).1
          have c3 := (TW.out.2.1.2 k hkn).1
          have f3 := (TW.out.2.1.2 k hkn).2
          simp only at c2 c3 f3
          have hrl := recTo_le V j k
          have hil := ignTo_le V j k
          have HXk : Hid (V j = -((k : Int) + 1)) := Lib.hid (by rw [HX.out]; omega)
          clear hk h0
          by_cases hri : ignTo V j k < recTo V j k
          · have s2 : decide (recTo V j k ≤ ignTo V j k) = false := by simp; omega
            go_wp2
            rw [HK.out]
            go_quiet (fail)
            go_wp2
            go_roundw
            case rel =>
              refine ⟨j + 1, by omega, by go_num, ⟨?_, ?_, ?_⟩, ?_, ?_⟩
              · rw [recTo_same HXk.out]; exact TW.out.1.of_block (Below.heap_setCell _ _ _ _ (by simp))
              · rw [ignTo_inc HXk.out]; exact TW.out.2.1.inI hkn (by omega)
              · simpa using TW.out.2.2
              · intro t ht
                by_cases e : t = j
                · subst e; exact ⟨k, hkn, .inr ⟨HXk.out, hri⟩⟩
                · exact OK.out t (by omega)
              · have hb := BW.out.setCell (p := ⟨w.heap.size + 1, k, none⟩) (by simp) (.int .u32 ((ignTo V j k : Int) + 1))
                exact ⟨hb.os, hb.tape, hb.output, hb.size, hb.block⟩
            case measure => simp [intOf]; omega
          · have s2 : decide (recTo V j k ≤ ignTo V j k) = true := by simp; omega
            go_wp2
            rw [HK.out]
            go_quiet (fail)
            go_wp2
            go_ret
            exact ⟨rfl, ⟨BW.out.os, BW.out.tape, BW.out.output, BW.out.size, BW.out.block⟩⟩
        · have s1 : decide ((n : Int) ≤ -(x + 1)) = true := by simp; omega
          clear hk h0
          go_wp2
          go_ret
          exact ⟨rfl, BW.out⟩
    · obtain rfl : j = len := by omega
      have OKL := OK
      go_wp2_with fail
      refine (newU wr n hn dead ts pt).mono ?_
      rintro e w2 ⟨rfl, hS2, hB2⟩
      have S2 : Hid (St w2 wr.heap.size n dead ts pt (uz dead V 0) (tz ts V 0) (uz dead V 0)) := Lib.hid (by rw [uz_zero, tz_zero]; exact hS2)
      have TW2 := Lib.hid (TW.out.keep (Touch.of_below hB2 (fun _ => False)) (fun _ h => h.elim))
      have BW2 := Lib.hid (BW.out.trans (hB2.mono BW.out.size))
      have hgB : w.heap.size + 2 ≤ wr.heap.size := TW.out.2.2
      clear hS2 hB2 TW BW
      generalize hB : w.heap.size = B at *
      have HB := Lib.hid hB
      clear hB
      generalize wr.heap.size = g at *
      clear OK
      go_simp
      go_wp2_with fail
      go_loopw [100] (fun i wr => ∃ t : Nat, t ≤ j ∧ i = .int .i64 t ∧ St wr g n dead ts pt (uz dead V t) (tz ts V t) (uz dead V t) ∧ Two wr B n V j ∧ Below B w wr) (fun i _ => j - (intOf i).toNat)
      case atStart => exact ⟨0, by omega, rfl, S2.out, TW2.out, BW2.out⟩
      case round =>
        clear S2 TW2 BW2
        obtain ⟨t, ht, rfl, hS, hTw, hBl⟩ := hrel
        have S3 := Lib.hid hS
        have TW := Lib.hid hTw
        have BW := Lib.hid hBl
        have hl1 := uz_le dead V t
        have hl2 := tz_le ts V t
        have HL1 := Lib.hid hl1
        have HL2 := Lib.hid hl2
        clear hS hTw hBl hl1 hl2
        by_cases hlt2 : t < j
        · have hv : -2147483648 ≤ V t ∧ V t ≤ 2147483647 := by simpa [Lit.wf, IntKind.min, IntKind.max, IntKind.signed, IntKind.bits] using HI.out.2.2.2 t
          obtain ⟨b, off, e, hcell⟩ := (HI.out.2.2.1.below (by rw [HB.out]; exact BW.out)) (by omega)
          cases e
          have c1 : _ = some (Value.int .i32 (V t)) := hcell t hlt2
          clear hcell
          obtain ⟨k, hkn, hvk⟩ := OKL.out t hlt2
          have hu1 : uz dead V t k ≤ 1000000 := by have := HL1.out k; omega
          have hu2 : tz ts V t k ≤ 1000000 := by have := HL2.out k; omega
          rcases hvk with hvk | ⟨hvk, hri⟩
          · rw [hvk] at c1 hv
            have HV := Lib.hid hvk
            have s0 : decide ((0 : Int) ≤ (k : Int)) = true := by simp
            clear hvk s0
            go_wp2_with fail
            refine (rec6 _ g k _ ((rec12 _ g n k dead ts pt _ _ _ S3.out hkn hn hu1 hu1 hu2).mono fun e w' h => ⟨h.1, h⟩)).mono ?_
            rintro e w4 ⟨rfl, _, hS4, hT4⟩
            rw [uz_rec (OKL.out.mono (by omega)) HV.out, tz_rec HV.out] at hS4
            have S4 := Lib.hid hS4
            have hF : ∀ q, (g ≤ q ∧ q < g + wid pt) → B + 2 ≤ q := fun q hq => by omega
            have TW4 := Lib.hid (TW.out.keep hT4 hF)
            have BW4 := Lib.hid (BW.out.trans (hT4.below (by have := TW.out.2.2; omega) (fun q hq => by have := hF q hq; omega)))
            clear hS4 hT4 hF
            go_simp
            go_wp2_with fail
            go_roundw
            case rel => exact ⟨t + 1, by omega, by go_num, S4.out, TW4.out, BW4.out⟩
            case measure => simp [intOf]; omega
          · rw [hvk] at c1 hv
            have HV := Lib.hid hvk
            have hpos : dead = false → 0 < uz dead V t k ∧ 0 < uz dead V t k := by
              rintro rfl
              have : 0 < uz false V t k := by simp [uz, net]; omega
              exact ⟨this, this⟩
            have HP := Lib.hid hpos
            clear hvk hpos hri
            obtain ⟨x, hx⟩ : ∃ x : Int, -((k : Int) + 1) = x := ⟨_, rfl⟩
            have hk2 : -(x + 1) = (k : Int) := by omega
            rw [hx] at c1 hv
            have hx0 : x < 0 := by omega
            have s0 : decide ((0 : Int) ≤ x) = false := by simp; omega
            have HK := Lib.hid hk2
            have hxl : -5000 ≤ x := by omega
            clear hx hk2
            go_wp2_with fail
            rw [HK.out]
            refine (ign7 _ g k _ ((ign13 _ g n k dead ts pt _ _ _ S3.out hkn hn hu1 hu1 hu2 HP.out).mono fun e w' h => ⟨h.1, h⟩)).mono ?_
            rintro e w4 ⟨rfl, _, hS4, hT4⟩
            rw [uz_ign (OKL.out.mono (by omega)) HV.out, tz_ign HV.out] at hS4
            have S4 := Lib.hid hS4
            have hF : ∀ q, (g ≤ q ∧ q < g + wid pt) → B + 2 ≤ q := fun q hq => by omega
            have TW4 := Lib.hid (TW.out.keep hT4 hF)
            have BW4 := Lib.hid (BW.out.trans (hT4.below (by have := TW.out.2.2; omega) (fun q hq => by have := hF q hq; omega)))
            clear hS4 hT4 hF
            go_simp
            go_wp2_with fail
            go_roundw
            case rel => exact ⟨t + 1, by omega, by go_num, S4.out, TW4.out, BW4.out⟩
            case measure => simp [intOf]; omega
        · obtain rfl : t = j := by omega
          go_wp2_with fail
          have hLe := OKL.out.le
          have HLe := Lib.hid hLe
          clear hLe
          go_loopw [19, 20] (fun d i wr => ∃ i' : Nat, i' ≤ n ∧ i = .int .i64 i' ∧ d = .int .i64 (dz dead pt V t i') ∧ St wr g n dead ts pt (uz dead V t) (tz ts V t) (uz dead V t) ∧ Two wr B n V t ∧ Below B w wr) (fun d i _ => n - (intOf i).toNat)
          case atStart => exact ⟨0, by omega, rfl, by cases pt <;> simp [dz, cnt], S3.out, TW.out, BW.out⟩
          case round =>
            clear S3 TW BW HL1 HL2
            obtain ⟨i, hi0, rfl, rfl, hS, hTw, hBl⟩ := hrel
            have S5 := Lib.hid hS
            have TW := Lib.hid hTw
            have BW := Lib.hid hBl
            have hdz := dz_le dead pt V t i
            clear hS hTw hBl
            by_cases hi : i < n
            · have c2 := (TW.out.1.2 i hi).1
              have c3 := (TW.out.2.1.2 i hi).1
              simp only at c2 c3
              have hrl := recTo_le V t i
              have hil := HLe.out i
              obtain ⟨x, hx⟩ : ∃ x, x = recTo V t i - ignTo V t i := ⟨_, rfl⟩
              have HUf : Hid (uz false V t i = x) := Lib.hid (by rw [hx]; rfl)
              have HUt : Hid (uz true V t i = 0) := Lib.hid rfl
              have HCt : Hid (tz true V t i = recTo V t i) := Lib.hid rfl
              have HCf : Hid (tz false V t i = 0) := Lib.hid rfl
              generalize recTo V t i = r at *
              generalize ignTo V t i = m at *
              have hxr : x ≤ 65536 := by omega
              have hr2 : r ≤ 65536 := by omega
              have hsub : IntKind.u32.wrap ((r : Int) - (m : Int)) = (x : Int) := by rw [IntWalk.u32_in _ (by omega)]; omega
              have hsub2 : (r : Int) - (m : Int) = (x : Int) := by omega
              clear hx
              cases dead <;> cases ts <;> cases pt
              · go_wp2
                go_quiet (fail)
                go_wp2_with fail
                refine (use8 (wr.drewN nq) g n i false false false _ _ _ (S5.out.drewN nq) hi hn).mono ?_
                rintro e w' ⟨rfl, rfl⟩
                rw [HUf.out]
                go_simp
                go_wp2_with fail
                refine (ts9 (wr.drewN nq) g n i false false false _ _ _ (S5.out.drewN nq) hi hn).mono ?_
                rintro e w' ⟨rfl, rfl⟩
                rw [HCf.out]
                go_simp
                go_wp2_with fail
                refine (part10n (wr.drewN nq) g n i false false _ _ _ (S5.out.drewN nq)).mono ?_
                rintro e w5 ⟨rfl, hb5⟩
                have T5 := Lib.hid (Touch.of_below hb5 (fun _ => False))
                clear hb5
                go_simp
                go_wp2_with fail
                go_roundw
                case rel => exact ⟨i + 1, by omega, by go_num, by rw [dz_succ _ _ _ _ _ _ HUf.out]; simp, (S5.out.drewN nq).keep T5.out (fun _ _ _ h => h), (TW.out.drewN nq).keep T5.out (fun _ h => h.elim), (Below.drewN' BW.out nq).trans (T5.out.below (by have := TW.out.2.2; show B ≤ wr.heap.size; omega) (fun _ h => h.elim))⟩
                case measure => simp [intOf]; omega
              · go_wp2
                go_quiet (fail)
                go_wp2_with fail
                refine (use8 (wr.drewN nq) g n i false false true _ _ _ (S5.out.drewN nq) hi hn).mono ?_
                rintro e w' ⟨rfl, rfl⟩
                rw [HUf.out]
                go_simp
                go_wp2_with fail
                refine (ts9 (wr.drewN nq) g n i false false true _ _ _ (S5.out.drewN nq) hi hn).mono ?_
                rintro e w' ⟨rfl, rfl⟩
                rw [HCf.out]
                go_simp
                go_wp2_with fail
                refine (part10 (wr.drewN nq) g n i false false _ _ _ (S5.out.drewN nq) hi).mono ?_
                rintro e w5 ⟨rfl, hb5⟩
                have T5 := Lib.hid (Touch.of_below hb5 (fun _ => False))
                clear hb5
                rw [HUf.out]
                by_cases hx0 : x = 0
                · subst hx0
                  go_simp
                  go_wp2_with fail
                  go_roundw
                  case rel => exact ⟨i + 1, by omega, by go_num, by rw [dz_succ _ _ _ _ _ _ HUf.out]; simp, (S5.out.drewN nq).keep T5.out (fun _ _ _ h => h), (TW.out.drewN nq).keep T5.out (fun _ h => h.elim), (Below.drewN' BW.out nq).trans (T5.out.below (by have := TW.out.2.2; show B ≤ wr.heap.size; omega) (fun _ h => h.elim))⟩
                  case measure => simp [intOf]; omega
                · have p1 : decide (x ≠ 0) = true := by simp; omega
                  have p2 : decide (0 < x) = true := by simp; omega
                  have p3 : (0 : Int) < (x : Int) := by omega
                  have p4 : 0 < x := by omega
                  have HX0 := Lib.hid hx0
                  rw [p1]
                  clear hx0
                  go_simp
                  go_wp2_with fail
                  go_roundw
                  case rel => exact ⟨i + 1, by omega, by go_num, by rw [dz_succ _ _ _ _ _ _ HUf.out]; rw [if_pos ⟨rfl, HX0.out⟩]; go_num, (S5.out.drewN nq).keep T5.out (fun _ _ _ h => h), (TW.out.drewN nq).keep T5.out (fun _ h => h.elim), (Below.drewN' BW.out nq).trans (T5.out.below (by have := TW.out.2.2; show B ≤ wr.heap.size; omega) (fun _ h => h.elim))⟩
                  case measure => simp [intOf]; omega
              · go_wp2
                go_quiet (fail)
                go_wp2_with fail
                refine (use8 (wr.drewN nq) g n i false true false _ _ _ (S5.out.drewN nq) hi hn).mono ?_
                rintro e w' ⟨rfl, rfl⟩
                rw [HUf.out]
                go_simp
                go_wp2_with fail
                refine (ts9 (wr.drewN nq) g n i false true false _ _ _ (S5.out.drewN nq) hi hn).mono ?_
                rintro e w' ⟨rfl, rfl⟩
                rw [HCt.out]
                go_simp
                go_wp2_with fail
                refine (part10n (wr.drewN nq) g n i false true _ _ _ (S5.out.drewN nq)).mono ?_
                rintro e w5 ⟨rfl, hb5⟩
                have T5 := Lib.hid (Touch.of_below hb5 (fun _ => False))
                clear hb5
                go_simp
                go_wp2_with fail
                go_roundw
                case rel => exact ⟨i + 1, by omega, by go_num, by rw [dz_succ _ _ _ _ _ _ HUf.out]; simp, (S5.out.drewN nq).keep T5.out (fun _ _ _ h => h), (TW.out.drewN nq).keep T5.out (fun _ h => h.elim), (Below.drewN' BW.out nq).trans (T5.out.below (by have := TW.out.2.2; show B ≤ wr.heap.size; omega) (fun _ h => h.elim))⟩
                case measure => simp [intOf]; omega
              · go_wp2
                go_quiet (fail)
                go_wp2_with fail
                refine (use8 (wr.drewN nq) g n i false true true _ _ _ (S5.out.drewN nq) hi hn).mono ?_
                rintro e w' ⟨rfl, rfl⟩
                rw [HUf.out]
                go_simp
                go_wp2_with fail
                refine (ts9 (wr.drewN nq) g n i false true true _ _ _ (S5.out.drewN nq) hi hn).mono ?_
                rintro e w' ⟨rfl, rfl⟩
                rw [HCt.out]
                go_simp
                go_wp2_with fail
                refine (part10 (wr.drewN nq) g n i false true _ _ _ (S5.out.drewN nq) hi).mono ?_
                rintro e w5 ⟨rfl, hb5⟩
                have T5 := Lib.hid (Touch.of_below hb5 (fun _ => False))
                clear hb5
                rw [HUf.out]
                by_cases hx0 : x = 0
                · subst hx0
                  go_simp
                  go_wp2_with fail
                  go_roundw
                  case rel => exact ⟨i + 1, by omega, by go_num, by rw [dz_succ _ _ _ _ _ _ HUf.out]; simp, (S5.out.drewN nq).keep T5.out (fun _ _ _ h => h), (TW.out.drewN nq).keep T5.out (fun _ h => h.elim), (Below.drewN' BW.out nq).trans (T5.out.below (by have := TW.out.2.2; show B ≤ wr.heap.size; omega) (fun _ h => h.elim))⟩
                  case measure => simp [intOf]; omega
                · have p1 : decide (x ≠ 0) = true := by simp; omega
                  have p2 : decide (0 < x) = true := by simp; omega
                  have p3 : (0 : Int) < (x : Int) := by omega
                  have p4 : 0 < x := by omega
                  have HX0 := Lib.hid hx0
                  rw [p1]
                  clear hx0
                  go_simp
                  go_wp2_with fail
                  go_roundw
                  case rel => exact ⟨i + 1, by omega, by go_num, by rw [dz_succ _ _ _ _ _ _ HUf.out]; rw [if_pos ⟨rfl, HX0.out⟩]; go_num, (S5.out.drewN nq).keep T5.out (fun _ _ _ h => h), (TW.out.drewN nq).keep T5.out (fun _ h => h.elim), (Below.drewN' BW.out nq).trans (T5.out.below (by have := TW.out.2.2; show B ≤ wr.heap.size; omega) (fun _ h => h.elim))⟩
                  case measure => simp [intOf]; omega
              · go_wp2
                go_quiet (fail)
                go_wp2_with fail
                refine (use8 (wr.drewN nq) g n i true false false _ _ _ (S5.out.drewN nq) hi hn).mono ?_
                rintro e w' ⟨rfl, rfl⟩
                rw [HUt.out]
                go_simp
                go_wp2_with fail
                refine (ts9 (wr.drewN nq) g n i true false false _ _ _ (S5.out.drewN nq) hi hn).mono ?_
                rintro e w' ⟨rfl, rfl⟩
                rw [HCf.out]
                go_simp
                go_wp2_with fail
                refine (part10n (wr.drewN nq) g n i true false _ _ _ (S5.out.drewN nq)).mono ?_
                rintro e w5 ⟨rfl, hb5⟩
                have T5 := Lib.hid (Touch.of_below hb5 (fun _ => False))
                clear hb5
                go_simp
                go_wp2_with fail
                go_roundw
                case rel => exact ⟨i + 1, by omega, by go_num, by rw [dz_succ _ _ _ _ _ _ HUt.out]; simp, (S5.out.drewN nq).keep T5.out (fun _ _ _ h => h), (TW.out.drewN nq).keep T5.out (fun _ h => h.elim), (Below.drewN' BW.out nq).trans (T5.out.below (by have := TW.out.2.2; show B ≤ wr.heap.size; omega) (fun _ h => h.elim))⟩
                case measure => simp [intOf]; omega
              · go_wp2
                go_quiet (fail)
                go_wp2_with fail
                refine (use8 (wr.drewN nq) g n i true false true _ _ _ (S5.out.drewN nq) hi hn).mono ?_
                rintro e w' ⟨rfl, rfl⟩
                rw [HUt.out]
                go_simp
                go_wp2_with fail
                refine (ts9 (wr.drewN nq) g n i true false true _ _ _ (S5.out.drewN nq) hi hn).mono ?_
                rintro e w' ⟨rfl, rfl⟩
                rw [HCf.out]
                go_simp
                go_wp2_with fail
                refine (part10 (wr.drewN nq) g n i true false _ _ _ (S5.out.drewN nq) hi).mono ?_
                rintro e w5 ⟨rfl, hb5⟩
                have T5 := Lib.hid (Touch.of_below hb5 (fun _ => False))
                clear hb5
                rw [HUt.out]
                go_simp
                go_wp2_with fail
                go_roundw
                case rel => exact ⟨i + 1, by omega, by go_num, by rw [dz_succ _ _ _ _ _ _ HUt.out]; simp, (S5.out.drewN nq).keep T5.out (fun _ _ _ h => h), (TW.out.drewN nq).keep T5.out (fun _ h => h.elim), (Below.drewN' BW.out nq).trans (T5.out.below (by have := TW.out.2.2; show B ≤ wr.heap.size; omega) (fun _ h => h.elim))⟩
                case measure => simp [intOf]; omega
              · go_wp2
                go_quiet (fail)
                go_wp2_with fail
                refine (use8 (wr.drewN nq) g n i true true false _ _ _ (S5.out.drewN nq) hi hn).mono ?_
                rintro e w' ⟨rfl, rfl⟩
                rw [HUt.out]
                go_simp
                go_wp2_with fail
                refine (ts9 (wr.drewN nq) g n i true true false _ _ _ (S5.out.drewN nq) hi hn).mono ?_
                rintro e w' ⟨rfl, rfl⟩
                rw [HCt.out]
                go_simp
                go_wp2_with fail
                refine (part10n (wr.drewN nq) g n i true true _ _ _ (S5.out.drewN nq)).mono ?_
                rintro e w5 ⟨rfl, hb5⟩
                have T5 := Lib.hid (Touch.of_below hb5 (fun _ => False))
                clear hb5
                go_simp
                go_wp2_with fail
                go_roundw
                case rel => exact ⟨i + 1, by omega, by go_num, by rw [dz_succ _ _ _ _ _ _ HUt.out]; simp, (S5.out.drewN nq).keep T5.out (fun _ _ _ h => h), (TW.out.drewN nq).keep T5.out (fun _ h => h.elim), (Below.drewN' BW.out nq).trans (T5.out.below (by have := TW.out.2.2; show B ≤ wr.heap.size; omega) (fun _ h => h.elim))⟩
                case measure => simp [intOf]; omega
              · go_wp2
                go_quiet (fail)
                go_wp2_with fail
                refine (use8 (wr.drewN nq) g n i true true true _ _ _ (S5.out.drewN nq) hi hn).mono ?_
                rintro e w' ⟨rfl, rfl⟩
                rw [HUt.out]
                go_simp
                go_wp2_with fail
                refine (ts9 (wr.drewN nq) g n i true true true _ _ _ (S5.out.drewN nq) hi hn).mono ?_
                rintro e w' ⟨rfl, rfl⟩
                rw [HCt.out]
                go_simp
                go_wp2_with fail
                refine (part10 (wr.drewN nq) g n i true true _ _ _ (S5.out.drewN nq) hi).mono ?_
                rintro e w5 ⟨rfl, hb5⟩
                have T5 := Lib.hid (Touch.of_below hb5 (fun _ => False))
                clear hb5
                rw [HUt.out]
                go_simp
                go_wp2_with fail
                go_roundw
                case rel => exact ⟨i + 1, by omega, by go_num, by rw [dz_succ _ _ _ _ _ _ HUt.out]; simp, (S5.out.drewN nq).keep T5.out (fun _ _ _ h => h), (TW.out.drewN nq).keep T5.out (fun _ h => h.elim), (Below.drewN' BW.out nq).trans (T5.out.below (by have := TW.out.2.2; show B ≤ wr.heap.size; omega) (fun _ h => h.elim))⟩
                case measure => simp [intOf]; omega
            · obtain rfl : i = n := by omega
              have BF : Hid (Below w.heap.size w wr) := Lib.hid (by rw [HB.out]; exact BW.out)
              cases pt
              · go_wp2_with fail
                refine (len11n wr g i dead ts _ _ _ S5.out).mono ?_
                rintro e w' ⟨rfl, rfl⟩
                rw [show dz dead false V t i = 0 by simp [dz]]
                go_simp
                go_wp2_with fail
                go_ret
                exact ⟨rfl, BF.out⟩
              · go_wp2_with fail
                refine (len11 wr g i dead ts _ _ _ S5.out).mono ?_
                rintro e w' ⟨rfl, rfl⟩
                rw [show dz dead true V t i = cnt (uz dead V t) i by simp [dz]]
                go_simp
                go_wp2_with fail
                go_ret
                exact ⟨rfl, BF.out⟩
end Go.Proofs.Ytcpibdgihomleaa.us
