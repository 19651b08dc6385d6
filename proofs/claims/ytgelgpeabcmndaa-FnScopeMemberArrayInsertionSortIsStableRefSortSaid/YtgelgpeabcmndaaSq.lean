/-
  The pieces of the sorting statement walked: clones, the array, Less, Swap, the fields.
-/
import Derived.Test.YtgelgpeabcmndaaSp
import Derived.ChangeAlike
import Derived.Deep.RegionHeld3
namespace Go.Proofs.Ytgelgpeabcmndaa.sp
open Go.ChangeShapes Go.WideShapes Go.ChangeAt Go.RowKit Go.Deep Go.Proofs.Ytgelgpeabcmndaa.sm Go.Proofs.Ytgelgpeabcmndaa.so
set_option linter.unusedVariables false
set_option linter.unusedSimpArgs false
/-- A slice of n elements, V i at place i; of an empty one nothing is said. -/
def Row (w : World) (a : Option Addr) (n : Nat) (V : Nat → Value) : Prop := 0 < n → ∃ b off, a = some ⟨b, off, none⟩ ∧ ∀ i, i < n → w.cell? ⟨b, off + i, none⟩ = some (V i)
theorem Row.below {w w' : World} {a : Option Addr} {n : Nat} {V : Nat → Value} (h : Row w a n V) (hb : Below w.heap.size w w') : Row w' a n V := by
  intro h0
  obtain ⟨b, off, rfl, hc⟩ := h h0
  refine ⟨b, off, rfl, fun i hi => ?_⟩
  have h1 := hc i hi
  exact (hb.cell (p := ⟨b, off + i, none⟩) (block_lt_of_cell h1)).trans h1
theorem Row.of_cells {w : World} {a : Addr} {n m : Nat} {V : Nat → Value} (hn : n ≤ m) (h : ∀ i, i < m → w.cell? (a.add i) = some (V i)) : Row w (some a) n V := by
  intro h0
  obtain ⟨b, off, spot⟩ := a
  have hspot : spot = none := by simpa [Addr.add] using World.cell?_spot (h 0 (by omega))
  subst hspot
  exact ⟨b, off, rfl, fun j hj => by rw [← Go.WideShapes.add_plain]; exact h j (by omega)⟩
theorem wf_zero (k : IntKind) : (Lit.int k 0).wf = true := by cases k <;> decide
/-- What a walk is told of a slice of integers that came in. -/
def IsInts (k : IntKind) (w : World) (a : Option Addr) (len cap : Nat) (Z : Nat → Int) : Prop :=
  (a = none → len = 0 ∧ cap = 0) ∧ len ≤ maxLen ∧ Row w a len (fun i => .int k (Z i)) ∧ ∀ i, (Lit.int k (Z i)).wf = true
theorem IsInts.nil (k : IntKind) (w : World) : IsInts k w none 0 0 (fun _ => 0) := ⟨fun _ => ⟨rfl, rfl⟩, by unfold maxLen; omega, fun h => by omega, fun i => wf_zero k⟩
theorem IsInts.mk {k : IntKind} {w : World} {a : Addr} {len cap : Nat} {zs : List Int} (hl : len ≤ cap) (hm : cap ≤ maxLen) (hz : zs.length = cap)
    (h : ∀ i, i < zs.length → w.cell? (a.add i) = some (.int k (zs.getD i 0))) (hwz : ∀ n ∈ zs, (Lit.int k n).wf = true) : IsInts k w (some a) len cap (fun i => zs.getD i 0) := by
  refine ⟨by simp, by omega, Row.of_cells (V := fun i => .int k (zs.getD i 0)) (by omega) h, fun i => ?_⟩
  show (Lit.int k (zs.getD i 0)).wf = true
  rw [List.getD_eq_getElem?_getD]
  cases e : zs[i]? with
  | none => exact wf_zero k
  | some s => exact hwz s (List.mem_of_getElem? e)
theorem bytes11 (a b c : Option Addr) (la lb lc ca cb cc : Nat) (v : Bool) (hv : decide (la + lb + lc ≤ 1048576) = v) (ha : la ≤ maxLen) (hb : lb ≤ maxLen) (hc : lc ≤ maxLen) (w : World) :
    Calls Try.prog 11 #[.slice a la ca, .slice b lb cb, .slice c lc cc] w fun e w' => e = .returned (.bool v) ∧ w = w' := by
  unfold maxLen at ha hb hc
  have HV := Lib.hid hv
  clear hv
  by_cases h0 : 1048576 < la
  · obtain rfl : v = false := by rw [← HV.out]; simp; omega
    go_enter Try.func11, Try.ntmps11
    go_wp2
    go_ret
    exact ⟨rfl, rfl⟩
  by_cases h1 : 1048576 < lb
  · obtain rfl : v = false := by rw [← HV.out]; simp; omega
    go_enter Try.func11, Try.ntmps11
    go_wp2
    go_ret
    exact ⟨rfl, rfl⟩
  by_cases h2 : 1048576 < la + lb
  · obtain rfl : v = false := by rw [← HV.out]; simp; omega
    go_enter Try.func11, Try.ntmps11
    go_wp2
    go_ret
    exact ⟨rfl, rfl⟩
  by_cases h3 : 1048576 < lc
  · obtain rfl : v = false := by rw [← HV.out]; simp; omega
    go_enter Try.func11, Try.ntmps11
    go_wp2
    go_ret
    exact ⟨rfl, rfl⟩
  by_cases h4 : 1048576 < la + lb + lc
  · obtain rfl : v = false := by rw [← HV.out]; simp; omega
    go_enter Try.func11, Try.ntmps11
    go_wp2
    go_ret
    exact ⟨rfl, rfl⟩
  obtain rfl : v = true := by rw [← HV.out]; simp; omega
  go_enter Try.func11, Try.ntmps11
  go_wp2
  go_ret
  exact ⟨rfl, rfl⟩
def ClU (w : World) (n : Nat) (V : Nat → Int) (e : Ending) (w' : World) : Prop := ∃ a, e = .returned (.slice a n n) ∧ Row w' a n (fun i => .int .u32 (V i)) ∧ Below w.heap.size w w'
theorem cloneRU (w : World) (a : Option Addr) (n cap : Nat) (V : Nat → Int) (hn : n ≤ 1048576) (ha : a = none → n = 0 ∧ cap = 0) (h : Row w a n (fun i => .int .u32 (V i))) : Calls Try.prog 6 #[.slice a n cap] w (ClU w n V) := by
  rcases a with _ | x
  · obtain ⟨rfl, rfl⟩ := ha rfl
    refine (cloneU_nil w).mono ?_
    rintro e w' ⟨rfl, rfl⟩
    exact ⟨none, rfl, fun h => by omega, Below.refl _ _⟩
  · have hc : Cells w x n fun i => Value.int .u32 (V i) := by
      by_cases h0 : 0 < n
      · obtain ⟨b, off, e, hcell⟩ := h h0
        cases e
        exact ⟨fun _ => rfl, fun i hi => hcell i hi⟩
      · exact ⟨fun h => by omega, fun i hi => by omega⟩
    refine (cloneU w x n cap V hn hc).mono ?_
    rintro e w' ⟨rfl, hw⟩
    refine ⟨_, rfl, fun h0 => ⟨w.heap.size, 0, rfl, fun i hi => ?_⟩, by rw [← hw]; exact (Below.refl _ _).alloc (Nat.le_refl _) _⟩
    rw [← hw]
    exact (Cells.made w n (fun i => Value.int .u32 (V i)) 32).2 i hi
def ClI (w : World) (n : Nat) (V : Nat → Int) (e : Ending) (w' : World) : Prop := ∃ a, e = .returned (.slice a n n) ∧ Row w' a n (fun i => .int .i32 (V i)) ∧ Below w.heap.size w w'
theorem cloneRI (w : World) (a : Option Addr) (n cap : Nat) (V : Nat → Int) (hn : n ≤ 1048576) (ha : a = none → n = 0 ∧ cap = 0) (h : Row w a n (fun i => .int .i32 (V i))) : Calls Try.prog 7 #[.slice a n cap] w (ClI w n V) := by
  rcases a with _ | x
  · obtain ⟨rfl, rfl⟩ := ha rfl
    refine (cloneI_nil w).mono ?_
    rintro e w' ⟨rfl, rfl⟩
    exact ⟨none, rfl, fun h => by omega, Below.refl _ _⟩
  · have hc : Cells w x n fun i => Value.int .i32 (V i) := by
      by_cases h0 : 0 < n
      · obtain ⟨b, off, e, hcell⟩ := h h0
        cases e
        exact ⟨fun _ => rfl, fun i hi => hcell i hi⟩
      · exact ⟨fun h => by omega, fun i hi => by omega⟩
    refine (cloneI w x n cap V hn hc).mono ?_
    rintro e w' ⟨rfl, hw⟩
    refine ⟨_, rfl, fun h0 => ⟨w.heap.size, 0, rfl, fun i hi => ?_⟩, by rw [← hw]; exact (Below.refl _ _).alloc (Nat.le_refl _) _⟩
    rw [← hw]
    exact (Cells.made w n (fun i => Value.int .i32 (V i)) 21).2 i hi

theorem buildZ (w : World) (a b c : Option Addr) (ca cb cc : Nat) (F : Nat → Mb) : Calls Try.prog 8 #[.slice a 0 ca, .slice b 0 cb, .slice c 0 cc] w (Built w 0 F) := by
  have hmk := Mb.made 0 (by omega)
  rw [show ((0 : Nat) : Int) = 0 from rfl] at hmk
  go_enter Try.func8, Try.ntmps8
  go_wp2_with fail
  go_loopw [9] (fun v wr => v = .int .i64 0 ∧ w.alloc (.cells (Mb.mz 0) 47) = wr) (fun v _ => 0)
  case atStart => exact ⟨rfl, rfl⟩
  case round =>
    obtain ⟨rfl, rfl⟩ := hrel
    clear hmk
    go_wp2_with fail
    go_ret
    exact ⟨_, rfl, rfl, (Mb.mz_row 0 w).ext fun p hp => by omega, (Below.refl _ _).alloc (Nat.le_refl _) _⟩
theorem buildR (w : World) (a b c : Option Addr) (n ca cb cc : Nat) (I S L : Nat → Int) (hn : n ≤ 65536) (hI : Row w a n fun i => Value.int .u32 (I i)) (hS : Row w b n fun i => Value.int .u32 (S i)) (hL : Row w c n fun i => Value.int .i32 (L i)) :
    Calls Try.prog 8 #[.slice a n ca, .slice b n cb, .slice c n cc] w (Built w n (fun q => ⟨S q, I q, L q⟩)) := by
  by_cases h0 : n = 0
  · subst h0
    exact buildZ w a b c ca cb cc _
  · obtain ⟨ab, ao, rfl, h1⟩ := hI (by omega)
    obtain ⟨bb, bo, rfl, h2⟩ := hS (by omega)
    obtain ⟨cb', co, rfl, h3⟩ := hL (by omega)
    exact build w ab bb cb' ao bo co n ca cb cc I S L hn ⟨fun _ => rfl, h1⟩ ⟨fun _ => rfl, h2⟩ ⟨fun _ => rfl, h3⟩
theorem len12 (w : World) (a : Option Addr) (n c : Nat) : Calls Try.prog 12 #[.slice a n c] w fun e w' => e = .returned (.int .i64 n) ∧ w = w' := by
  go_enter Try.func12, Try.ntmps12
  go_wp2_with fail
  go_ret
  exact ⟨rfl, rfl⟩
theorem less1 (w : World) (g n y : Nat) (F : Nat → Mb) (hy : 0 < y) (hyn : y < n) (hn : n ≤ 65536) (hr : RowG w g 47 (n * 3) (Mb.flat F)) :
    Calls Try.prog 10 #[.slice (some ⟨g, 0, none⟩) n n, .int .i64 y, .int .i64 ((y : Int) - 1)] w (LessE w (lessB (F y) (F (y - 1)))) := by
  rw [show ((y : Int) - 1) = ((y - 1 : Nat) : Int) by omega]
  exact less w g n y (y - 1) F hyn (by omega) hn hr
def swp (i j q : Nat) : Nat := if q = i then j else if q = j then i else q
def Swapped (w : World) (g n i j : Nat) (F : Nat → Mb) (e : Ending) (w' : World) : Prop := e = .returned (.tuple #[]) ∧ RowG w' g 47 (n * 3) (Mb.flat fun q => F (swp i j q)) ∧ Only g w w'
set_option maxHeartbeats 4000000 in
theorem swap_ne (w : World) (g n i j : Nat) (F : Nat → Mb) (hi : i < n) (hj : j < n) (hn : n ≤ 65536) (hr : RowG w g 47 (n * 3) (Mb.flat F)) (hij : i ≠ j) :
    Calls Try.prog 13 #[.slice (some ⟨g, 0, none⟩) n n, .int .i64 i, .int .i64 j] w (Swapped w g n i j F) := by
  obtain ⟨a0, a1, a2⟩ := Mb.cells hr hi
  obtain ⟨b0, b1, b2⟩ := Mb.cells hr hj
  have f := hr.frozen
  have HR := Lib.hid hr
  clear hr
  have m0 : i * 3 ≠ j * 3 := by omega
  go_enter Try.func13, Try.ntmps13
  go_region
  go_end0
  refine ⟨rfl, ?_, ?_⟩
  · refine RowG.drew (RowG.ext (Mb.put_row (Mb.put_row HR.out i (F j)) j (F i)) fun p _ => ?_)
    unfold Mb.flat
    congr 1
    simp only [swp]
    by_cases h1 : p / 3 = i
    · rw [if_pos h1, if_neg (by omega), if_pos h1]
    · rw [if_neg h1]
      by_cases h2 : p / 3 = j
      · rw [if_pos h2, if_pos h2, if_neg h1]
      · rw [if_neg h2, if_neg h2, if_neg h1]
  · exact Only.drew ((Mb.put_only w g i (F j)).trans (Mb.put_only _ g j (F i)))
theorem swap1 (w : World) (g n y : Nat) (F : Nat → Mb) (hy : 0 < y) (hyn : y < n) (hn : n ≤ 65536) (hr : RowG w g 47 (n * 3) (Mb.flat F)) :
    Calls Try.prog 13 #[.slice (some ⟨g, 0, none⟩) n n, .int .i64 y, .int .i64 ((y : Int) - 1)] w (Swapped w g n y (y - 1) F) := by
  rw [show ((y : Int) - 1) = ((y - 1 : Nat) : Int) by omega]
  exact swap_ne w g n y (y - 1) F hyn (by omega) hn hr (by omega)
def FldE (w : World) (m : Mb) (e : Ending) (w' : World) : Prop := e = .returned (.tuple #[.int .u32 m.i, .int .u32 m.s, .int .i32 m.l]) ∧ Below w.heap.size w w'
theorem fields15 (w : World) (m : Mb) : Calls Try.prog 15 #[.agg #[.int .u32 m.s, .int .u32 m.i, .int .i32 m.l]] w (FldE w m) := by
  go_enter Try.func15, Try.ntmps15
  go_wp2_with fail
  go_region
  go_wp2_with fail
  go_ret3
  exact ⟨rfl, by first | exact ((Below.refl _ _).alloc (Nat.le_refl _) _).drew | exact (Below.refl _ _).drew.alloc (Nat.le_refl _) _ | exact (Below.refl _ _).alloc (Nat.le_refl _) _⟩
/-- The key of member i. -/
def kk (I S : Nat → Int) (i : Nat) : Nat := (key (I i) (S i)).toNat
theorem kk_eq {I S : Nat → Int} (bI : ∀ i, 0 ≤ I i ∧ I i ≤ 4294967295) (bS : ∀ i, 0 ≤ S i ∧ S i ≤ 4294967295) (i : Nat) : key (I i) (S i) = (kk I S i : Int) := by
  have h1 := bI i; have h2 := bS i
  unfold kk key; omega
theorem less_kk {I S L : Nat → Int} (bI : ∀ i, 0 ≤ I i ∧ I i ≤ 4294967295) (bS : ∀ i, 0 ≤ S i ∧ S i ≤ 4294967295) (a b : Nat) : lessB ⟨S a, I a, L a⟩ ⟨S b, I b, L b⟩ = decide (kk I S a < kk I S b) := by
  have h1 := bI a; have h2 := bS a; have h3 := bI b; have h4 := bS b
  unfold lessB
  rw [Bool.eq_iff_iff]
  simp [kk, key]
  omega
theorem Ins.end' {K : Nat → Nat} {n x : Nat} {p : Nat → Nat} (h : Ins K n x p) (hx : n ≤ x) (h1 : x ≤ n ∨ x = 1) : Sorted K n p := by
  obtain ⟨a, b, c⟩ := h
  refine ⟨fun k hk => ?_, fun i j hij hj => c i j hij (by omega)⟩
  have := a k (by omega)
  omega
/-- The array of members, in the order p. -/
def Arr (w1 : World) (g n : Nat) (I S L : Nat → Int) (p : Nat → Nat) (w : World) : Prop := Held w1 g n (fun q => ⟨S (p q), I (p q), L (p q)⟩) w
theorem Arr.swap {w1 w w' : World} {g n y : Nat} {I S L : Nat → Int} {p : Nat → Nat} {e : Ending} (h : Arr w1 g n I S L p w) (hg : g < w.heap.size) (hs : Swapped w g n y (y - 1) (fun q => ⟨S (p q), I (p q), L (p q)⟩) e w') : Arr w1 g n I S L (sw p y) w' := by
  obtain ⟨_, h1, h2⟩ := hs
  refine ⟨h1.ext fun q _ => ?_, h.2.trans (h2.2.2 g (Nat.le_refl _))⟩
  unfold Mb.flat
  have e : p (swp y (y - 1) (q / 3)) = sw p y (q / 3) := by
    unfold swp sw
    by_cases h1 : q / 3 = y
    · rw [if_pos h1, if_pos h1]
    · rw [if_neg h1, if_neg h1]
      by_cases h2 : q / 3 = y - 1
      · rw [if_pos h2, if_pos h2]
      · rw [if_neg h2, if_neg h2]
  simp only [e]
def KR (I S : Nat → Int) (k q : Nat) : Value := .int .u64 (if q < k then (kk I S q : Int) else 0)
theorem info30 : (Try.prog.info? 30).map (fun i => (i.zero, i.size, i.bytes)) = some (some (Value.int .u64 0), 1, 8) := by kernel_rfl
structure KS (w1 : World) (g kb n : Nat) (I S L : Nat → Int) (p : Nat → Nat) (k : Nat) (w : World) : Prop where
  a : Arr w1 g n I S L p w
  k : RowG w kb 30 n (KR I S k)
  lt : g < kb
theorem KS.put {w1 w : World} {g kb n k : Nat} {I S L : Nat → Int} {p : Nat → Nat} (h : KS w1 g kb n I S L p k w) : KS w1 g kb n I S L p (k + 1) (w.setCell ⟨kb, k, none⟩ (.int .u64 (kk I S k : Int))) := by
  have hlt := h.lt
  refine ⟨⟨h.a.1.other _ _ (by show g ≠ kb; omega), h.a.2.setCell (by show g ≤ kb; omega) _⟩, (h.k.set k _).ext fun q _ => ?_, h.lt⟩
  simp only [KR]
  by_cases e : q = k
  · subst e; rw [if_pos rfl, if_pos (by omega)]
  · rw [if_neg e]
    by_cases e2 : q < k
    · rw [if_pos e2, if_pos (by omega)]
    · rw [if_neg e2, if_neg (by omega)]
theorem KS.drew {w1 w : World} {g kb n k : Nat} {I S L : Nat → Int} {p : Nat → Nat} (h : KS w1 g kb n I S L p k w) : KS w1 g kb n I S L p k w.drew := ⟨h.a.drew, h.k.drew, h.lt⟩
theorem KS.below {w1 w w' : World} {g kb n k : Nat} {I S L : Nat → Int} {p : Nat → Nat} (h : KS w1 g kb n I S L p k w) (hb : Below w.heap.size w w') : KS w1 g kb n I S L p k w' := ⟨h.a.below hb, h.k.below hb h.k.lt, h.lt⟩
end Go.Proofs.Ytgelgpeabcmndaa.sp
