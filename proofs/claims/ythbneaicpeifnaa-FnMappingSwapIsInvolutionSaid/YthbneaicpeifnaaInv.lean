/-
  Proved: for every slice of int32 and every two ints FnMappingSwapIsInvolution returns true and leaves its arguments as they were. No condition.
-/
import Derived.Test.YthbneaicpeifnaaRows
import Derived.WalkKit
import Derived.ProofKit
import Derived.OpenShut
import Derived.ShutString
import Derived.ChangeOld
import Derived.Below
import Derived.Test.YthbneaicpeifnaaSw
namespace Go.Proofs.Ythbneaicpeifnaa.fnMappingSwapIsInvolution
open Go.ChangeShapes Go.WideShapes Go.ChangeAt Go.RowKit
open Go.ChangeMaps (open_string shut_string)
set_option linter.unusedVariables false

theorem own : ownKnob Try.prog.godebug = none := by kernel_rfl
theorem laidOut : laidOutB Try.prog = true := by kernel_rfl

/-- WHAT THE WALK IS TOLD OF A SLICE OF INTEGERS THAT CAME IN: it is nil; or it leads to a row of 'cap' cells, the numbers 'zs' (the first 'len' are its elements, the rest its spare room), each fitting its kind. -/
def IsRow (k : IntKind) (w : World) (a : Option Addr) (len cap : Nat) (zs : List Int) : Prop :=
  (a = none ∧ len = 0 ∧ cap = 0 ∧ zs = []) ∨
  ∃ x, a = some x ∧ len ≤ cap ∧ cap ≤ maxLen ∧ zs.length = cap ∧ (∀ i, i < zs.length → w.cell? (x.add i) = some (.int k (zs.getD i 0))) ∧ ∀ n ∈ zs, (Lit.int k n).wf = true

open Go.Proofs.Ythbneaicpeifnaa.sw Go.Deep

theorem bytes_yes (a : Option Addr) (len cap : Nat) (x y : Int) (h : len ≤ 1048576) (w : World) : Calls Try.prog 9 #[.slice a len cap, .int .i64 x, .int .i64 y] w fun e w' => e = .returned (.bool true) ∧ w = w' := by
  go_enter Try.func9, Try.ntmps9
  go_wp2
  go_ret
  exact ⟨rfl, rfl⟩
theorem bytes_no (a : Option Addr) (len cap : Nat) (x y : Int) (h : 1048576 < len) (w : World) : Calls Try.prog 9 #[.slice a len cap, .int .i64 x, .int .i64 y] w fun e w' => e = .returned (.bool false) ∧ w = w' := by
  go_enter Try.func9, Try.ntmps9
  go_wp2
  go_ret
  exact ⟨rfl, rfl⟩

/-- The statement's guards: where one of them fires the law returns true at once. -/
theorem early (a : Option Addr) (len cap : Nat) (x y : Int) (w : World) (h : 65536 < len ∨ len = 0 ∨ x < 0 ∨ (len : Int) ≤ x ∨ y < 0 ∨ (len : Int) ≤ y) :
    Calls Try.prog 4 #[.slice a len cap, .int .i64 x, .int .i64 y] w fun e w' => e = .returned (.bool true) ∧ Below w.heap.size w w' := by
  by_cases hbig : 1048576 < len
  · have HB := Lib.hid (bytes_no a len cap x y hbig)
    clear h
    go_enter Try.func4, Try.ntmps4
    go_wp2_with (go_at_call 9; refine (HB.out _).mono ?_; rintro e w' ⟨rfl, rfl⟩)
    go_ret
    exact ⟨rfl, Below.refl _ _⟩
  have HB := Lib.hid (bytes_yes a len cap x y (by omega))
  by_cases h1 : 65536 < len
  · clear h
    go_enter Try.func4, Try.ntmps4
    go_wp2_with (go_at_call 9; refine (HB.out _).mono ?_; rintro e w' ⟨rfl, rfl⟩)
    go_ret
    exact ⟨rfl, Below.refl _ _⟩
  by_cases h2 : len = 0
  · subst h2
    clear h
    go_enter Try.func4, Try.ntmps4
    go_wp2_with (go_at_call 9; refine (HB.out _).mono ?_; rintro e w' ⟨rfl, rfl⟩)
    go_ret
    exact ⟨rfl, Below.refl _ _⟩
  have e2 : ((len : Int) == 0) = false := by simp; omega
  by_cases h3 : x < 0
  · clear h
    go_enter Try.func4, Try.ntmps4
    go_wp2_with (go_at_call 9; refine (HB.out _).mono ?_; rintro e w' ⟨rfl, rfl⟩)
    go_ret
    exact ⟨rfl, Below.refl _ _⟩
  by_cases h4 : (len : Int) ≤ x
  · clear h
    go_enter Try.func4, Try.ntmps4
    go_wp2_with (go_at_call 9; refine (HB.out _).mono ?_; rintro e w' ⟨rfl, rfl⟩)
    go_ret
    exact ⟨rfl, Below.refl _ _⟩
  by_cases h5 : y < 0
  · clear h
    go_enter Try.func4, Try.ntmps4
    go_wp2_with (go_at_call 9; refine (HB.out _).mono ?_; rintro e w' ⟨rfl, rfl⟩)
    go_ret
    exact ⟨rfl, Below.refl _ _⟩
  have h6 : (len : Int) ≤ y := by omega
  clear h
  go_enter Try.func4, Try.ntmps4
  go_wp2_with (go_at_call 9; refine (HB.out _).mono ?_; rintro e w' ⟨rfl, rfl⟩)
  go_ret
  exact ⟨rfl, Below.refl _ _⟩

def Look (w : World) (g L q s : Nat) (V : Nat → Int) : Prop :=
  w.cell? ⟨g, q * 6, none⟩ = some (.int .i32 (el (V s) s).a) ∧ w.cell? ⟨g, q * 6 + 1, none⟩ = some (.int .i32 (el (V s) s).b) ∧ w.cell? ⟨g, q * 6 + 2, none⟩ = some (.int .i32 (el (V s) s).c) ∧
  w.cell? ⟨g, q * 6 + 3, none⟩ = some (.int .i32 (el (V s) s).d) ∧ w.cell? ⟨g, q * 6 + 4, none⟩ = some (.int .i32 (el (V s) s).e) ∧ w.cell? ⟨g, q * 6 + 5, none⟩ = some (.int .u32 (el (V s) s).o) ∧
  w.cell? ⟨L, s, none⟩ = some (.int .i32 (V s))
def ElemE (w : World) (m : Mp) (e : Ending) (w' : World) : Prop := e = .returned (.agg #[.int .i32 m.a, .int .i32 m.b, .int .i32 m.c, .int .i32 m.d, .int .i32 m.e, .int .u32 m.o]) ∧ Below w.heap.size w w'
theorem elemE (w : World) (l : Int) (k : Nat) (hl : -2147483648 ≤ l ∧ l ≤ 2147483647) (hk : k < 65536) : Calls Try.prog 7 #[.int .i32 l, .int .i64 k] w (ElemE w (el l k)) := elem w l k hl hk
theorem neqE (m : Mp) (w : World) : (binOp .neq 30 (.agg #[.int .i32 m.a, .int .i32 m.b, .int .i32 m.c, .int .i32 m.d, .int .i32 m.e, .int .u32 m.o]) (.agg #[.int .i32 m.a, .int .i32 m.b, .int .i32 m.c, .int .i32 m.d, .int .i32 m.e, .int .u32 m.o])).run Try.prog w = .ok (.bool false) w := neq30 m w
theorem eqE (m : Mp) (w : World) : (Op.equalIn 10000 30 (.agg #[.int .i32 m.a, .int .i32 m.b, .int .i32 m.c, .int .i32 m.d, .int .i32 m.e, .int .u32 m.o]) (.agg #[.int .i32 m.a, .int .i32 m.b, .int .i32 m.c, .int .i32 m.d, .int .i32 m.e, .int .u32 m.o])).run Try.prog w = .ok true w := by
  have e30 := TypeDesc.struct.inj (Option.some.inj (f30.symm.trans Try.underlying30))
  have e28 := TypeDesc.struct.inj (Option.some.inj (f28.symm.trans Try.underlying28))
  have k28 : ∀ x : Int, ∀ w : World, (Op.equalIn 9999 28 (.agg #[.int .u32 x]) (.agg #[.int .u32 x])).run Try.prog w = .ok true w := by
    intro x w
    rw [show (9999 : Nat) = 9998 + 1 from rfl, run_equalIn_struct w 9998 28 _ _ f28 s28, e28]
    simp [Op.eqFields, go_sem]
  rw [show (10000 : Nat) = 9999 + 1 from rfl, run_equalIn_struct w 9999 30 _ _ f30 s30, e30]
  simp [Op.eqFields, go_sem, k28]
theorem guard30 : Try.prog.eqGuardType Try.prog.depth 30 = false := by kernel_rfl
/-- The first k elements are laid; the rest are zero. -/
def Fk (V : Nat → Int) (k q : Nat) : Mp := if q < k then el (V q) q else ⟨0, 0, 0, 0, 0, 0⟩
/-- What is held while the law runs: the row of mappings at g; below g nothing has changed. -/
def Held (w1 : World) (g n : Nat) (F : Nat → Mp) (w : World) : Prop := RowG w g 30 (n * 6) (flat F) ∧ Below g w1 w
theorem Held.below {w1 w w' : World} {g n : Nat} {F : Nat → Mp} (h : Held w1 g n F w) (hb : Below w.heap.size w w') : Held w1 g n F w' :=
  ⟨h.1.below hb h.1.lt, h.2.trans (hb.mono (Nat.le_of_lt h.1.lt))⟩
theorem Held.drew {w1 w : World} {g n : Nat} {F : Nat → Mp} (h : Held w1 g n F w) : Held w1 g n F w.drew := ⟨h.1.drew, h.2.drew⟩
theorem Held.put {w1 w : World} {g n : Nat} {F : Nat → Mp} (h : Held w1 g n F w) (i : Nat) (m : Mp) : Held w1 g n (fun q => if q = i then m else F q) (put w g i m) :=
  ⟨put_row h.1 i m, h.2.trans ((put_only w g i m).2.2 g (Nat.le_refl _))⟩
theorem Held.congr {w1 w : World} {g n : Nat} {F F' : Nat → Mp} (h : Held w1 g n F w) (e : ∀ q, q < n → F q = F' q) : Held w1 g n F' w :=
  ⟨h.1.ext fun p hp => by unfold flat; rw [e (p / 6) (by omega)], h.2⟩

theorem keepit {w1 : World} {g k q s L : Nat} {V : Nat → Int} {FF : Nat → Mp} (P6 : ∀ w', Held w1 g k FF w' → Look w' g L q s V) {w' : World} (h : Held w1 g k FF w') :
    w'.cell? ⟨g, q * 6, none⟩ = some (.int .i32 (el (V s) s).a) ∧ w'.cell? ⟨g, q * 6 + 1, none⟩ = some (.int .i32 (el (V s) s).b) ∧ w'.cell? ⟨g, q * 6 + 2, none⟩ = some (.int .i32 (el (V s) s).c) ∧
  w'.cell? ⟨g, q * 6 + 3, none⟩ = some (.int .i32 (el (V s) s).d) ∧ w'.cell? ⟨g, q * 6 + 4, none⟩ = some (.int .i32 (el (V s) s).e) ∧ w'.cell? ⟨g, q * 6 + 5, none⟩ = some (.int .u32 (el (V s) s).o) ∧
  w'.cell? ⟨L, s, none⟩ = some (.int .i32 (V s)) ∧ Held w1 g k FF w' := by
  obtain ⟨d0, d1, d2, d3, d4, d5, c1⟩ := P6 w' h
  exact ⟨d0, d1, d2, d3, d4, d5, c1, h⟩


theorem swp_comm (i j q : Nat) : swp i j q = swp j i q := by
  unfold swp
  by_cases h1 : q = i
  · rw [if_pos h1]
    by_cases h2 : q = j
    · rw [if_pos h2]; omega
    · rw [if_neg h2, if_pos h1]
  · rw [if_neg h1]
    by_cases h2 : q = j
    · rw [if_pos h2, if_pos h2]
    · rw [if_neg h2, if_neg h2, if_neg h1]
theorem swp_swp (i j q : Nat) : swp i j (swp i j q) = q := by
  unfold swp
  by_cases h1 : q = i
  · rw [if_pos h1]
    by_cases h2 : j = i
    · rw [if_pos h2]; omega
    · rw [if_neg h2, if_pos rfl]; omega
  · rw [if_neg h1]
    by_cases h2 : q = j
    · rw [if_pos h2, if_pos rfl]; omega
    · rw [if_neg h2, if_neg h1, if_neg h2]
theorem swp_lt {i j q n : Nat} (hi : i < n) (hj : j < n) (hq : q < n) : swp i j q < n := by unfold swp; split; exact hj; split; exact hi; exact hq

/-- Both rows: a at g, b at g + 1; below g nothing has changed. -/
def Two (w1 : World) (g n : Nat) (F F2 : Nat → Mp) (w : World) : Prop := RowG w g 30 (n * 6) (flat F) ∧ RowG w (g + 1) 30 (n * 6) (flat F2) ∧ Below g w1 w
theorem Two.below {w1 w w' : World} {g n : Nat} {F F2 : Nat → Mp} (h : Two w1 g n F F2 w) (hb : Below w.heap.size w w') : Two w1 g n F F2 w' :=
  ⟨h.1.below hb h.1.lt, h.2.1.below hb h.2.1.lt, h.2.2.trans (hb.mono (Nat.le_of_lt h.1.lt))⟩
theorem Two.drew {w1 w : World} {g n : Nat} {F F2 : Nat → Mp} (h : Two w1 g n F F2 w) : Two w1 g n F F2 w.drew := ⟨h.1.drew, h.2.1.drew, h.2.2.drew⟩
theorem Two.putA {w1 w : World} {g n : Nat} {F F2 : Nat → Mp} (h : Two w1 g n F F2 w) (i : Nat) (m : Mp) : Two w1 g n (fun q => if q = i then m else F q) F2 (put w g i m) :=
  ⟨put_row h.1 i m, (put_only w g i m).row h.2.1 (by omega), h.2.2.trans ((put_only w g i m).2.2 g (Nat.le_refl _))⟩
theorem Two.putB {w1 w : World} {g n : Nat} {F F2 : Nat → Mp} (h : Two w1 g n F F2 w) (i : Nat) (m : Mp) : Two w1 g n F (fun q => if q = i then m else F2 q) (put w (g + 1) i m) :=
  ⟨(put_only w (g + 1) i m).row h.1 (by omega), put_row h.2.1 i m, h.2.2.trans ((put_only w (g + 1) i m).2.2 g (by omega))⟩
theorem flat_congr {n : Nat} {F F' : Nat → Mp} (e : ∀ q, q < n → F q = F' q) : ∀ p, p < n * 6 → flat F p = flat F' p := fun p hp => by unfold flat; rw [e (p / 6) (by omega)]
theorem Two.congr {w1 w : World} {g n : Nat} {F F' G G' : Nat → Mp} (h : Two w1 g n F G w) (e : ∀ q, q < n → F q = F' q) (e2 : ∀ q, q < n → G q = G' q) : Two w1 g n F' G' w :=
  ⟨h.1.ext (flat_congr e), h.2.1.ext (flat_congr e2), h.2.2⟩
theorem Two.swapA {w1 w w' : World} {g n i j : Nat} {F F2 : Nat → Mp} {e : Ending} (h : Two w1 g n F F2 w) (s : Swapped w g n i j F e w') : Two w1 g n (fun q => F (swp i j q)) F2 w' :=
  ⟨s.2.1, s.2.2.row h.2.1 (by omega), h.2.2.trans (s.2.2.2.2 g (Nat.le_refl _))⟩
theorem Two.swapB {w1 w w' : World} {g n i j : Nat} {F F2 : Nat → Mp} {e : Ending} (h : Two w1 g n F F2 w) (s : Swapped w (g + 1) n i j F2 e w') : Two w1 g n F (fun q => F2 (swp i j q)) w' :=
  ⟨s.2.2.row h.1 (by omega), s.2.1, h.2.2.trans (s.2.2.2.2 g (by omega))⟩
theorem Fk_step (V : Nat → Int) (k q : Nat) : (if q = k then el (V k) k else Fk V k q) = Fk V (k + 1) q := by
  unfold Fk
  by_cases e : q = k
  · subst e; rw [if_pos rfl, if_pos (by omega)]
  · rw [if_neg e]
    by_cases e' : q < k
    · rw [if_pos e', if_pos (by omega)]
    · rw [if_neg e', if_neg (by omega)]
theorem keepT {w1 : World} {g k q L : Nat} {V : Nat → Int} {FF GG : Nat → Mp} (P6 : ∀ w', Two w1 g k FF GG w' → Look w' g L q q V) {w' : World} (h : Two w1 g k FF GG w') :
    w'.cell? ⟨g, q * 6, none⟩ = some (.int .i32 (el (V q) q).a) ∧ w'.cell? ⟨g, q * 6 + 1, none⟩ = some (.int .i32 (el (V q) q).b) ∧ w'.cell? ⟨g, q * 6 + 2, none⟩ = some (.int .i32 (el (V q) q).c) ∧ w'.cell? ⟨g, q * 6 + 3, none⟩ = some (.int .i32 (el (V q) q).d) ∧ w'.cell? ⟨g, q * 6 + 4, none⟩ = some (.int .i32 (el (V q) q).e) ∧ w'.cell? ⟨g, q * 6 + 5, none⟩ = some (.int .u32 (el (V q) q).o) ∧
  w'.cell? ⟨L, q, none⟩ = some (.int .i32 (V q)) ∧ Two w1 g k FF GG w' := by
  obtain ⟨d0, d1, d2, d3, d4, d5, c1⟩ := P6 w' h
  exact ⟨d0, d1, d2, d3, d4, d5, c1, h⟩

set_option maxRecDepth 100000 in
set_option maxHeartbeats 8000000 in
theorem main (w : World) (x : Addr) (len cap i j : Nat) (V : Nat → Int) (hl : len ≤ 65536) (hi : i < len) (hj : j < len) (hc : Cells w x len fun i => Value.int .i32 (V i))
    (hV : ∀ i, i < len → -2147483648 ≤ V i ∧ V i ≤ 2147483647) :
    Calls Try.prog 4 #[.slice (some x) len cap, .int .i64 i, .int .i64 j] w fun e w' => e = .returned (.bool true) ∧ Below w.heap.size w w' := by
  have HC := Lib.hid hc
  have HV := Lib.hid hV
  clear hc hV
  have HB := Lib.hid (bytes_yes (some x) len cap i j (by omega))
  have e2 : ((len : Int) == 0) = false := by simp; omega
  go_enter Try.func4, Try.ntmps4
  go_wp2_with fail
  refine (HB.out _).mono ?_
  rintro e w' ⟨rfl, rfl⟩
  go_wp2_with fail
  refine (clone w x len cap V (by omega) HC.out).mono ?_
  rintro e w1 ⟨rfl, hw1⟩
  have hb1 : Below w.heap.size w w1 := by rw [← hw1]; exact (Below.refl _ _).alloc (Nat.le_refl _) _
  have hc1 : Cells w1 ⟨w.heap.size, 0, none⟩ len fun i => Value.int .i32 (V i) := by rw [← hw1]; exact Cells.made w len (fun i => Value.int .i32 (V i)) 21
  have hlt1 : w.heap.size < w1.heap.size := by rw [← hw1]; simp
  have HB1 := Lib.hid hb1
  have HC1 := Lib.hid hc1
  have HL1 := Lib.hid hlt1
  clear hw1 hb1 hc1 hlt1
  have hmk := mk25 len hl
  go_wp2_with fail
  have h0 : Two w1 w1.heap.size len (Fk V 0) (Fk V 0) ((w1.alloc (.cells (mz len) 30)).alloc (.cells (mz len) 30)) := by
    have r1 := (mz_row len w1).ext (G' := flat (Fk V 0)) fun p _ => by simp [flat, Fk]
    have r2 := (mz_row len (w1.alloc (.cells (mz len) 30))).ext (G' := flat (Fk V 0)) fun p _ => by simp [flat, Fk]
    simp only [World.size_alloc] at r2
    exact ⟨r1.alloc _, r2, ((Below.refl _ _).alloc (Nat.le_refl _) _).alloc (by simp) _⟩
  have H0 := Lib.hid h0
  clear h0 hmk
  have hgg : w.heap.size < w1.heap.size := HL1.out
  generalize hg : w1.heap.size = g at *
  generalize (w1.alloc (.cells (mz len) 30)).alloc (.cells (mz len) 30) = w2 at *
  have HG := Lib.hid hg
  clear hg
  have line : Hid (∀ (w' : World) k, Below g w1 w' → k < len → w'.cell? ⟨w.heap.size, k, none⟩ = some (.int .i32 (V k))) := Lib.hid fun w' k hb hk =>
    (hb.cell (p := ⟨w.heap.size, k, none⟩) hgg).trans (by simpa using HC1.out.2 k hk)
  go_loopw [10] (fun v wr => ∃ k : Nat, k ≤ len ∧ v = .int .i64 k ∧ Two w1 g len (Fk V k) (Fk V k) wr) (fun v _ => len - (intOf v).toNat)
  case atStart => exact ⟨0, by omega, rfl, H0.out⟩
  case round =>
    obtain ⟨k, hk, rfl, hR⟩ := hrel
    have HR := Lib.hid hR
    clear hR
    by_cases hlt : k < len
    · have hv := HV.out k hlt
      have c1 := line.out wr k HR.out.2.2 hlt
      go_wp2_with fail
      refine (elem wr (V k) k hv (by omega)).mono ?_
      rintro e w3 ⟨rfl, hb3⟩
      have h3 := HR.out.below hb3
      have H3 := Lib.hid h3
      obtain ⟨d0, d1, d2, d3, d4, d5⟩ := six h3.1 hlt
      have ff := h3.1.frozen
      have h5 := h3.putA k (el (V k) k)
      have c3 := line.out _ k h5.2.2 hlt
      have H5 := Lib.hid h5
      unfold put at c3
      clear h3 hb3 h5
      unfold agg
      go_wp2_with fail
      refine (elem _ (V k) k hv (by omega)).mono ?_
      rintro e w5 ⟨rfl, hb5⟩
      have h6 := H5.out.below hb5
      have H6 := Lib.hid h6
      obtain ⟨g0, g1, g2, g3, g4, g5⟩ := six h6.2.1 hlt
      have ff2 := h6.2.1.frozen
      clear h6 hb5 d0 d1 d2 d3 d4 d5 ff c3
      unfold agg
      go_wp2_with fail
      go_roundw
      case rel =>
        refine ⟨k + 1, by omega, by go_num, ?_⟩
        exact Two.congr (H6.out.putB k (el (V k) k)) (fun q _ => Fk_step V k q) (fun q _ => Fk_step V k q)
      case measure => simp [intOf]; omega
    · obtain rfl : k = len := by omega
      go_wp2_with fail
      refine (swap wr g k i j (Fk V k) hi hj hl HR.out.1).mono ?_
      intro e w4 s4
      have h4 := HR.out.swapA s4
      have he := s4.1
      subst he
      have H4 := Lib.hid h4
      clear s4 h4
      go_wp2_with fail
      refine (swap w4 (g + 1) k j i (Fk V k) hj hi hl H4.out.2.1).mono ?_
      intro e w5 s5
      have h5 := H4.out.swapB s5
      have he := s5.1
      subst he
      obtain ⟨FF, hFF⟩ : ∃ FF : Nat → Mp, FF = fun q => el (V (swp i j q)) (swp i j q) := ⟨_, rfl⟩
      have h6 : Two w1 g k FF FF w5 := Two.congr h5 (fun q hq => by rw [hFF]; simp only [Fk, if_pos (swp_lt hi hj hq)]) (fun q hq => by rw [hFF]; simp only [← swp_comm i j q, Fk, if_pos (swp_lt hi hj hq)])
      have H6 := Lib.hid h6
      have HFF := Lib.hid hFF
      clear s5 h5 h6 hFF
      go_wp2_with fail
      go_loopw [11] (fun v wr => ∃ q : Nat, q ≤ k ∧ v = .int .i64 q ∧ Two w1 g k FF FF wr) (fun v _ => k - (intOf v).toNat)
      case atStart => exact ⟨0, by omega, rfl, H6.out⟩
      case round =>
        obtain ⟨q, hq, rfl, hR2⟩ := hrel
        have HR2 := Lib.hid hR2
        clear hR2
        by_cases hlt2 : q < k
        · obtain ⟨d0, d1, d2, d3, d4, d5⟩ := six HR2.out.1 hlt2
          obtain ⟨g0, g1, g2, g3, g4, g5⟩ := six HR2.out.2.1 hlt2
          have q1 := neqE (FF q)
          have q2 := eqE (FF q)
          have q3 := guard30
          go_wp2_with fail
          go_region
          go_wp2_with fail
          go_roundw
          case rel => exact ⟨q + 1, by omega, by go_num, HR2.out.drew⟩
          case measure => simp [intOf]; omega
        · obtain rfl : q = k := by omega
          go_wp2_with fail
          refine (swap _ g q i j FF hi hj hl HR2.out.1).mono ?_
          intro e w7 s7
          have h7 := HR2.out.swapA s7
          have he := s7.1
          subst he
          have h8 : Two w1 g q (fun q => el (V q) q) FF w7 := Two.congr h7 (fun q hq => by rw [HFF.out]; simp only [swp_swp]) (fun q hq => rfl)
          have H8 := Lib.hid h8
          clear s7 h7 h8
          go_wp2_with fail
          go_loopw [12] (fun v wr => ∃ m : Nat, m ≤ q ∧ v = .int .i64 m ∧ Two w1 g q (fun q => el (V q) q) FF wr) (fun v _ => q - (intOf v).toNat)
          case atStart => exact ⟨0, by omega, rfl, H8.out⟩
          case round =>
            obtain ⟨m, hm, rfl, hR3⟩ := hrel
            have HR3 := Lib.hid hR3
            clear hR3
            by_cases hlt3 : m < q
            · have hv := HV.out m hlt3
              have hm2 : m < 65536 := by omega
              have P6 : Hid (∀ w', Two w1 g q (fun q => el (V q) q) FF w' → Look w' g w.heap.size m m V) := Lib.hid fun w' h' => by
                obtain ⟨d0, d1, d2, d3, d4, d5⟩ := six h'.1 hlt3
                exact ⟨d0, d1, d2, d3, d4, d5, line.out w' m h'.2.2 hlt3⟩
              obtain ⟨d0, d1, d2, d3, d4, d5, c1⟩ := P6.out wr HR3.out
              have q1 := neqE (el (V m) m)
              have q2 := eqE (el (V m) m)
              have q3 := guard30
              go_wp2_with fail
              go_region_held3 (fun w' => w'.cell? ⟨g, m * 6, none⟩ = some (.int .i32 (el (V m) m).a) ∧ w'.cell? ⟨g, m * 6 + 1, none⟩ = some (.int .i32 (el (V m) m).b) ∧ w'.cell? ⟨g, m * 6 + 2, none⟩ = some (.int .i32 (el (V m) m).c) ∧ w'.cell? ⟨g, m * 6 + 3, none⟩ = some (.int .i32 (el (V m) m).d) ∧ w'.cell? ⟨g, m * 6 + 4, none⟩ = some (.int .i32 (el (V m) m).e) ∧ w'.cell? ⟨g, m * 6 + 5, none⟩ = some (.int .u32 (el (V m) m).o) ∧ w'.cell? ⟨w.heap.size, m, none⟩ = some (.int .i32 (V m)) ∧ Two w1 g q (fun q => el (V q) q) FF w') (first | (refine keepT P6.out ?_; first | assumption | exact Two.drew (by assumption)))
                (first | (go_at_call 7; (with_reducible refine (elemE _ _ _ hv hm2).mono ?_); rintro e w' ⟨rfl, hb⟩; have hk := Two.below (w1 := w1) (g := g) (n := q) (F := fun q => el (V q) q) (F2 := FF) (by first | assumption | exact Two.drew (by assumption)) hb; clear hb))
              go_wp2_with fail
              go_roundw
              case rel => exact ⟨m + 1, by omega, by go_num, hk⟩
              case measure => simp [intOf]; omega
            · obtain rfl : m = q := by omega
              go_wp2_with fail
              go_ret
              exact ⟨rfl, HB1.out.trans (HR3.out.2.2.mono (by omega))⟩

theorem walk (a0 : Option Addr) (len0 cap0 : Nat) (z0 : List Int) (a1 : Int) (a2 : Int) (w : World) (w0 : IsRow .i32 w a0 len0 cap0 z0) (w1 : (Lit.int .i64 a1).wf = true) (w2 : (Lit.int .i64 a2).wf = true) :
    Calls Try.prog 4 #[.slice a0 len0 cap0, .int .i64 a1, .int .i64 a2] w fun e w' => e = .returned (.bool true) ∧ Below w.heap.size w w' := by
  rcases w0 with ⟨rfl, rfl, rfl, rfl⟩ | ⟨x, rfl, hl, hm, hz, hcell, hwf⟩
  · exact early none 0 0 a1 a2 w (by omega)
  by_cases hg : 65536 < len0 ∨ len0 = 0 ∨ a1 < 0 ∨ (len0 : Int) ≤ a1 ∨ a2 < 0 ∨ (len0 : Int) ≤ a2
  · exact early (some x) len0 cap0 a1 a2 w hg
  obtain ⟨i, rfl⟩ : ∃ i : Nat, a1 = (i : Int) := ⟨a1.toNat, by omega⟩
  obtain ⟨j, rfl⟩ : ∃ j : Nat, a2 = (j : Int) := ⟨a2.toNat, by omega⟩
  refine main w x len0 cap0 i j (fun i => z0.getD i 0) (by omega) (by omega) (by omega) ?_ ?_
  · obtain ⟨b, off, rfl, hc⟩ := ints_at hcell (by omega)
    exact ⟨fun _ => rfl, fun i hi => hc i (by omega)⟩
  · intro i hi
    have hm : z0.getD i 0 ∈ z0 := by
      rw [List.getD_eq_getElem?_getD, List.getElem?_eq_getElem (by omega), Option.getD_some]
      exact List.getElem_mem _
    simpa [Lit.wf, IntKind.min, IntKind.max, IntKind.signed, IntKind.bits] using hwf _ hm

/-! ### THE ROW's STEP: WRITTEN OUT: LEAVE IT -/
set_option maxRecDepth 100000 in
theorem lifted (os : Os) (started : os.Started) (H : Type) (enc : TypeId × Value → H) :
    ReturnsInHanded {} Try.checked os 4 .any (Rows.fnMappingSwapIsInvolutionSpec.pre6 enc Try.prog Try.f4 Rows.fnMappingSwapIsInvolutionRow.domain false) (Rows.fnMappingSwapIsInvolutionSpec.post enc Try.prog Try.f4 false true false false) := by
  refine returnsInHanded_of_change (C := Try.checked) own started (by kernel_rfl) Try.func4
    (ChangeSpec.witness6 (enc := enc) (C := Try.checked) false ⟨#[], #[.slice none 0 0, .int .i64 0, .int .i64 0], []⟩ 8 (by kernel_rfl) (by kernel_rfl) (by kernel_rfl) (by kernel_rfl)) ?_
  intro W base args ds gs before hval0 hW hcnd _
  have hval : ∀ (j : Nat) t v, Try.f4.params[j]? = some t → args[j]? = some v → Value.okWide Try.prog W .any base t v := hval0
  have hW' := hW
  obtain ⟨p, q, hA0, hV, rfl, hfz, hnd⟩ := hW
  have hA : DataW.TrodAll enc Try.prog W 0 (fun _ => true) true Try.f4.params.toList args.toList ds p := hA0
  rw [Try.params4] at hA hval
  obtain ⟨v0, vs0, d0, ds0, p0, q0, hargs, rfl, rfl, h0, r0⟩ := trodAll_cons hA
  obtain ⟨v1, vs1, d1, ds1, p1, q1, rfl, rfl, rfl, h1, r1⟩ := trodAll_cons r0
  obtain ⟨v2, vs2, d2, ds2, p2, q2, rfl, rfl, rfl, h2, r2⟩ := trodAll_cons r1
  obtain ⟨rfl, rfl, rfl⟩ := trodAll_nil r2
  obtain rfl : args = #[v0, v1, v2] := by cases args; simp_all
  obtain ⟨rfl, rfl⟩ := trodVars_none hV
  obtain ⟨a0, len0, cap0, rfl⟩ := okWide_slice Try.underlying22 (hval 0 22 v0 rfl rfl)
  have k0 := h0
  have lt0 : ∀ x ∈ p0, x.block < W.heap.size := by obtain ⟨m, hm⟩ := k0; exact DataW.trod_lt m _ _ _ hm
  obtain ⟨z0, w0⟩ : ∃ zs, IsRow .i32 W a0 len0 cap0 zs := by
    obtain ⟨fuel, hf⟩ := h0
    rcases open_ints Try.underlying22 Try.underlying21 (by kernel_rfl) hf with ⟨hcs, _⟩ | ⟨x, l, c, zs, hcs, _, hl, hm, hz, _, hcell, hwz⟩
    · simp [Value.cells] at hcs
      obtain ⟨rfl, rfl, rfl⟩ := hcs
      exact ⟨[], .inl ⟨rfl, rfl, rfl, rfl⟩⟩
    · simp [Value.cells] at hcs
      obtain ⟨rfl, rfl, rfl⟩ := hcs
      exact ⟨zs, .inr ⟨_, rfl, hl, hm, by simpa using hz, hcell, hwz⟩⟩
  obtain ⟨a1, rfl, rfl, rfl, w1⟩ := open_int Try.underlying3 (hval 1 3 v1 rfl rfl) h1
  obtain ⟨a2, rfl, rfl, rfl, w2⟩ := open_int Try.underlying3 (hval 2 3 v2 rfl rfl) h2
  clear hA0 hval0
  refine (walk a0 len0 cap0 z0 a1 a2 W w0 w1 w2).mono fun e W' ⟨he, bel⟩ => ?_
  subst he
  exact ⟨_, rfl, _, _, _, [], _, [], hW', trodAll_mk1 (shut_bool Try.underlying4 _), (trodAll_cons_mk (Below.trod laidOut (by kernel_rfl) (of_decide_eq_true (by kernel_rfl)) k0 bel lt0) (trodAll_cons_mk (shut_int Try.underlying3 w1) (trodAll_cons_mk (shut_int Try.underlying3 w2) trodAll_mk0))), rfl, bel.frame _, fun h => by cases h⟩

theorem over : Rows.fnMappingSwapIsInvolutionRow.holds Try.pinned (OpenSpec.ofChange Rows.fnMappingSwapIsInvolutionSpec) :=
  OpenClaim.holds_of_wide 4 Try.f4 rfl rfl rfl rfl rfl rfl rfl ⟨rfl, rfl, rfl, rfl, rfl⟩ rfl rfl rfl rfl rfl (by kernel_rfl) Try.func4 (by kernel_rfl)
    (of_decide_eq_true (by kernel_rfl)) (by unfold Func.isWrapper; first | (rw [if_pos (by decide +kernel)]; kernel_rfl) | (rw [if_neg (by decide +kernel)]; exact ⟨rfl, rfl⟩))
    (fun os started H enc _ => lifted os started H enc)

/-- ████ THE STATEMENT ████ -/
theorem proved : Rows.FnMappingSwapIsInvolutionSaid := over
#print axioms proved
end Go.Proofs.Ythbneaicpeifnaa.fnMappingSwapIsInvolution
