/-
  Symbols: the law's helpers.
-/
import Derived.Test.YtnemldibhdphoaaDoorMe
namespace Go.Proofs.YtnemldibhdphoaaDoor.lk
open Go.ChangeShapes Go.WideShapes Go.ChangeAt Go.RowKit Go.Deep
set_option linter.unusedVariables false
set_option linter.unusedSimpArgs false

theorem belSet {w w' : World} (h : Below w.heap.size w w') {b : Nat} (hb : w.heap.size ≤ b) (i : Nat) (v : Value) : Below w.heap.size w (w'.setCell ⟨b, i, none⟩ v) :=
  h.trans ⟨rfl, rfl, rfl, by simp [World.setCell], fun k hk => Below.heap_setCell _ _ _ _ (by show k ≠ b; omega)⟩
theorem bytes4 (w : World) (a : Option Addr) (len cap : Nat) (x y : Int) : Calls Tryd.prog 4 #[.slice a len cap, .int .u32 x, .int .u32 y] w (fun e w' => (∃ b, e = .returned (.bool b)) ∧ w' = w) := by
  by_cases h : len ≤ 1048576
  · go_enter Tryd.func4, Tryd.ntmps4
    go_wp2
    go_ret
    exact ⟨⟨_, rfl⟩, rfl⟩
  · go_enter Tryd.func4, Tryd.ntmps4
    go_wp2
    go_ret
    exact ⟨⟨_, rfl⟩, rfl⟩
theorem info21 : (Tryd.prog.info? 21).map (fun i => (i.zero, i.size, i.bytes)) = some (some (Value.int .i32 0), 1, 4) := by kernel_rfl
def CloneP (w : World) (len : Nat) (Z : Nat → Int) (e : Ending) (w' : World) : Prop := ∃ a c, e = .returned (.slice a len c) ∧ Row w' a len (fun i => .int .i32 (Z i)) ∧ Below w.heap.size w w'
set_option maxHeartbeats 1000000 in
theorem clone5 (w : World) (a : Option Addr) (len cap : Nat) (Z : Nat → Int) (hl : len ≤ 65536) (hn : a = none → len = 0 ∧ cap = 0) (hc : Row w a len fun i => .int .i32 (Z i)) :
    Calls Tryd.prog 5 #[.slice a len cap] w (CloneP w len Z) := by
  have hnil := fun (w : World) (a : Option Addr) (n c : Nat) => Lib.run_eql_slice_nil (P := Tryd.prog) w 22 21 a n c 0 0 Tryd.underlying22
  rcases a with _ | x
  · obtain ⟨rfl, rfl⟩ := hn rfl
    clear hn hc
    go_enter Tryd.func5, Tryd.ntmps5
    go_wp2
    go_ret
    exact ⟨_, _, rfl, fun h => by omega, Below.refl _ _⟩
  · have HC := Lib.hid hc
    have hmk := run_make_row' (P := Tryd.prog) 22 21 (.int .i32 0) 4 Tryd.underlying22 info21 rfl .i64 .i64 len (by omega) (by omega) w
    clear hn hc
    go_enter Tryd.func5, Tryd.ntmps5
    go_wp2
    clear hmk hnil
    have HB0 : Hid (Below w.heap.size w (w.alloc (.cells (madeCells #[.int .i32 0] len) 21))) := Lib.hid ((Below.refl _ _).alloc (Nat.le_refl _) _)
    have HR0 : Hid ((w.alloc (.cells (madeCells #[.int .i32 0] len) 21)).rowIs w.heap.size 21 len (fun _ => .int .i32 0)) := Lib.hid (World.rowIs_made _ _ _ _)
    generalize w.alloc (.cells (madeCells #[.int .i32 0] len) 21) = w1 at *
    go_loopw [4] (fun i wr => ∃ (k : Nat) (f : Nat → Value), k ≤ len ∧ i = .int .i64 k ∧ wr.rowIs w.heap.size 21 len f ∧ (∀ j, j < k → f j = .int .i32 (Z j)) ∧ Below w.heap.size w wr) (fun i _ => len - (intOf i).toNat)
    case atStart => exact ⟨0, _, by omega, rfl, HR0.out, fun j hj => by omega, HB0.out⟩
    case round =>
      clear HR0 HB0
      obtain ⟨k, f, hk, rfl, hr, hf, hB⟩ := hrel
      have HR := Lib.hid hr
      have HF := Lib.hid hf
      have HB := Lib.hid hB
      clear hr hf hB
      by_cases hlt : k < len
      · obtain ⟨b, off, e, hcell⟩ := (HC.out.below HB.out) (by omega)
        cases e
        have c1 := hcell k hlt
        have d1 := HR.out.cell hlt
        have d2 := HR.out.frozen k
        clear hcell
        go_wp2
        go_roundw
        case rel =>
          refine ⟨k + 1, _, by omega, by go_num, HR.out.set k _, fun j hj => ?_, belSet HB.out (Nat.le_refl _) _ _⟩
          by_cases e : j = k
          · subst e; simp
          · rw [if_neg e]; exact HF.out j (by omega)
        case measure => simp [intOf]; omega
      · obtain rfl : k = len := by omega
        go_wp2
        go_ret
        exact ⟨_, _, rfl, fun h0 => ⟨_, 0, rfl, fun i hi => by rw [Nat.zero_add, HR.out.cell hi, HF.out i hi]⟩, HB.out⟩
/-- What the model of links answers: a table of links in range, in which all have roots; or no. -/
def LmP (w : World) (n old nw : Nat) (e : Ending) (w' : World) : Prop :=
  Below w.heap.size w w' ∧ ((∃ s, e = .returned (.tuple #[s, .bool false])) ∨ (old < n ∧ nw < n ∧ ∃ a c, ∃ L : Nat → Int, e = .returned (.tuple #[.slice a n c, .bool true]) ∧ Row w' a n (fun i => .int .i64 (L i)) ∧ (∀ i, i < n → L i = -1 ∨ (0 ≤ L i ∧ L i < n)) ∧ ∀ i, i < n → ∃ r, Rt (lnk L) i r))
theorem LmP.no {w w' : World} {n old nw : Nat} (h : Below w.heap.size w w') : LmP w n old nw (.returned (.tuple #[.slice none 0 0, .bool false])) w' := ⟨h, .inl ⟨_, rfl⟩⟩
set_option maxRecDepth 100000 in
set_option maxHeartbeats 4000000 in
theorem links6 (w : World) (a : Option Addr) (n cap : Nat) (Z : Nat → Int) (old nw : Nat) (hl : n ≤ 65536) (ho : old < 4294967296) (hw : nw < 4294967296) (hc : Row w a n fun i => .int .i32 (Z i)) (hz : ∀ i, -2147483648 ≤ Z i ∧ Z i < 2147483648) :
    Calls Tryd.prog 6 #[.slice a n cap, .int .u32 old, .int .u32 nw] w (LmP w n old nw) := by
  have HC := Lib.hid hc
  have HZ := Lib.hid hz
  clear hc hz
  by_cases h1 : old < n
  rotate_left
  · go_enter Tryd.func6, Tryd.ntmps6
    go_wp2_with fail
    go_ret2
    exact .no (Below.refl _ _)
  by_cases h2 : nw < n
  rotate_left
  · go_enter Tryd.func6, Tryd.ntmps6
    go_wp2_with fail
    go_ret2
    exact .no (Below.refl _ _)
  have hmk := made26 n (by omega)
  go_enter Tryd.func6, Tryd.ntmps6
  go_wp2_with fail
  clear hmk
  have HB0 : Hid (Below w.heap.size w (w.alloc (.cells (madeCells #[.int .i64 0] n) 2))) := Lib.hid ((Below.refl _ _).alloc (Nat.le_refl _) _)
  have HR0 : Hid ((w.alloc (.cells (madeCells #[.int .i64 0] n) 2)).rowIs w.heap.size 2 n (fun _ => .int .i64 0)) := Lib.hid (World.rowIs_made _ _ _ _)
  generalize w.alloc (.cells (madeCells #[.int .i64 0] n) 2) = w1 at *
  go_loopw [10] (fun i wr => ∃ (k : Nat) (f : Nat → Int), k ≤ n ∧ i = .int .i64 k ∧ wr.rowIs w.heap.size 2 n (fun i => .int .i64 (f i)) ∧ (∀ j, j < k → f j = -1 ∨ (0 ≤ f j ∧ f j < n)) ∧ Below w.heap.size w wr) (fun i _ => n - (intOf i).toNat)
  case atStart => exact ⟨0, fun _ => 0, by omega, rfl, HR0.out, fun j hj => by omega, HB0.out⟩
  case round =>
    clear HR0 HB0
    obtain ⟨k, f, hk, rfl, hr, hf, hB⟩ := hrel
    have HR := Lib.hid hr
    have HF := Lib.hid hf
    have HB := Lib.hid hB
    clear hr hf hB
    by_cases hlt : k < n
    · obtain ⟨b, off, rfl, hcell⟩ := (HC.out.below HB.out) (by omega)
      have c1 : _ = some (Value.int .i32 (Z k)) := hcell k hlt
      have d1 := HR.out.cell hlt
      have d2 := HR.out.frozen k
      obtain ⟨z1, z2⟩ := HZ.out k
      clear hcell
      generalize Z k = z at *
      by_cases hneg : z < 0
      · go_wp2_with fail
        go_roundw
        case rel =>
          refine ⟨k + 1, updI f k (-1), by omega, by go_num, (HR.out.set k (.int .i64 (-1))).congr (fun i _ => by simp only [updI]; split <;> rfl), fun j hj => ?_, belSet HB.out (Nat.le_refl _) _ _⟩
          unfold updI; split
          · exact .inl rfl
          · exact HF.out j (by omega)
        case measure => simp [intOf]; omega
      · by_cases hbig : z < n
        · go_wp2_with fail
          go_roundw
          case rel =>
            refine ⟨k + 1, updI f k z, by omega, by go_num, (HR.out.set k (.int .i64 z)).congr (fun i _ => by simp only [updI]; split <;> rfl), fun j hj => ?_, belSet HB.out (Nat.le_refl _) _ _⟩
            unfold updI; split
            · exact .inr ⟨by omega, hbig⟩
            · exact HF.out j (by omega)
          case measure => simp [intOf]; omega
        · go_wp2_with fail
          go_ret2
          exact .no HB.out
    · obtain rfl : k = n := by omega
      have hfit : ∀ i, i < k → f i < k := fun i hi => by rcases HF.out i hi with h | h <;> omega
      have HFit := Lib.hid hfit
      clear hfit
      have HRow : Hid (Row _ (some ⟨w.heap.size, 0, none⟩) k (fun i => .int .i64 (f i))) := Lib.hid (fun h0 => ⟨_, 0, rfl, fun i hi => by rw [Nat.zero_add]; exact HR.out.cell hi⟩)
      go_wp2_with fail
      rename World => wq
      refine (roots7 wq (some ⟨w.heap.size, 0, none⟩) k k f hl HRow.out HFit.out).mono ?_
      rintro e w' ⟨hB2, ⟨rfl, _⟩ | ⟨a2, c2, f2, rfl, hr2, hrt⟩⟩
      · have HB2 := Lib.hid hB2
        clear hB2
        go_simp
        go_wp2_with fail
        go_ret2
        exact .no (HB.out.trans (HB2.out.mono HB.out.size))
      · have HB2 := Lib.hid hB2
        have HRT := Lib.hid hrt
        clear hB2 hr2 hrt
        go_simp
        go_wp2_with fail
        go_ret2
        exact ⟨HB.out.trans (HB2.out.mono HB.out.size), .inr ⟨h1, h2, _, _, f, rfl, HRow.out.below HB2.out, HF.out, fun i hi => ⟨_, HRT.out i hi⟩⟩⟩
/-- The cells of a literal of type 165: the named fields as given, all else zero. -/
noncomputable def pc  : Array Value := (Tryd.prog.built 165 []).getD #[]
theorem pc_built  : Tryd.prog.built 165 [] = some (pc ) := by kernel_rfl
theorem pc_wp {o : Oper} {a : Act} {w : World} {K : Act → World → Prop} {Q : Exit → Act → World → Prop} (ho : o.op = .build 165 #[]) 
    (h : K (a.put o.dst (.agg (pc ))) w) : o.wp Tryd.prog a w K Q := by
  refine wp_build 165 _ ho ?_ ?_
  · simp only [List.map_toArray, List.map_nil, pc_built]; rfl
  · simp only [List.map_toArray, List.map_nil, pc_built, Option.getD_some]; exact h

theorem pc_350  : (pc )[350]? = some (.bool false) := by kernel_rfl
theorem pc_32  : (pc )[32]? = some (.bool false) := by kernel_rfl
theorem pc_66  : (pc )[66]? = some (.int .u32 0) := by kernel_rfl
theorem pc_103  : (pc )[103]? = some (.slice none 0 0) := by kernel_rfl
theorem pc_106  : (pc )[106]? = some (.slice none 0 0) := by kernel_rfl
theorem pc_114  : (pc )[114]? = some (.map none) := by kernel_rfl

theorem sset {A : Array Value} {i j : Nat} {v u : Value} (h : A[i]? = some v) (hij : i ≠ j) : (A.setIfInBounds j u)[i]? = some v := (Array.getElem?_setIfInBounds_ne (fun e => hij e.symm)).trans h
theorem sself {A : Array Value} {i : Nat} {v u : Value} (h : A[i]? = some v) : (A.setIfInBounds i u)[i]? = some u := Array.getElem?_setIfInBounds_self_of_lt (Array.getElem?_eq_some_iff.1 h).1
def NewP (w : World) (e : Ending) (w' : World) : Prop := e = .returned (.pointer (some ⟨w.heap.size, 0, none⟩)) ∧ Pm w' w.heap.size 0 false (.slice none 0 0) none ∧ Below w.heap.size w w'
theorem pm_new (w : World) (A : Array Value) (t : TypeId) (h0 : A[350]? = some (.bool false)) (h1 : A[32]? = some (.bool false)) (h2 : A[66]? = some (.int .u32 0)) (h3 : A[103]? = some (.slice none 0 0)) (h4 : A[106]? = some (.slice none 0 0)) (h5 : A[114]? = some (.map none)) :
    Pm (w.alloc (.cells A t)) w.heap.size 0 false (.slice none 0 0) none := by
  have hb : (w.alloc (.cells A t)).heap[w.heap.size]? = some (.cells A t (0, 0)) := heap_alloc_new w _
  have c : ∀ j, (w.alloc (.cells A t)).cell? ⟨w.heap.size, j, none⟩ = A[j]? := fun j => cell_of_row _ _ j _ _ _ hb
  have f : ∀ j, (w.alloc (.cells A t)).frozen? ⟨w.heap.size, j, none⟩ = false := fun j => frozen_of_row _ _ j _ _ hb
  exact ⟨(c _).trans h0, (c _).trans h1, (c _).trans h2, (c _).trans h3, (c _).trans h4, (c _).trans h5, f _, f _⟩
set_option maxRecDepth 100000 in
set_option maxHeartbeats 4000000 in
theorem new8 (w : World) : Calls Tryd.prog 8 #[.int .u32 0, .bool false] w (NewP w) := by
  have p1 := pc_106
  have p3 := pc_32
  have p4 := pc_66
  go_enter Tryd.func8, Tryd.ntmps8
  go_wp2_with fail
  refine pc_wp rfl ?_
  go_simp
  go_wp2_with fail
  go_ret
  refine ⟨rfl, pm_new w _ _ ?_ ?_ ?_ ?_ ?_ ?_, (Below.refl _ _).alloc (Nat.le_refl _) _⟩
  · exact sset (sset pc_350 (by omega)) (by omega)
  · exact sself (sset pc_32 (by omega))
  · exact sset (sself pc_66) (by omega)
  · exact sset (sset pc_103 (by omega)) (by omega)
  · exact sset (sset pc_106 (by omega)) (by omega)
  · exact sset (sset pc_114 (by omega)) (by omega)
/-- The parser while its symbols are made: k of them, none linked. -/
def Mk (w1 : World) (g k : Nat) (wr : World) : Prop :=
  ∃ (a : Option Addr) (c : Nat), Pm wr g 0 false (.slice a k c) none ∧ Inv wr 4294967295 4294967295 ∧ wr.ownsRow g 173 10 (.slice a k c) k ((List.replicate k (symC ByteArray.empty 0 4294967295 4294967295)).flatten) ∧ (Value.slice a k c).ownBlock ≠ some g ∧ Below g w1 wr
theorem Mk.below {w1 wr w' : World} {g k : Nat} (h : Mk w1 g k wr) (hb : Below wr.heap.size wr w') : Mk w1 g k w' := by
  obtain ⟨a, c, hP, hI, hO, hN, hB⟩ := h
  have hg := hP.lt
  refine ⟨a, c, hP.of_block (hb.block g hg), hI.touch (Touch.of_below hb (fun _ => False)) (fun h => h), ?_, hN, hB.trans (hb.mono (Nat.le_of_lt hg))⟩
  obtain ⟨h1, h2⟩ := hO
  refine ⟨h1, ?_⟩
  rcases h2 with h2 | ⟨q, cap, cur, e, hbq, hh, r⟩
  · exact .inl h2
  · exact .inr ⟨q, cap, cur, e, hbq, (hb.block q (lt_of_block hh)).trans hh, r⟩
theorem flat_snoc (k : Nat) (l : List Value) : (List.replicate (k + 1) l).flatten = (List.replicate k l).flatten ++ l := by
  rw [List.replicate_succ']; simp
set_option maxRecDepth 100000 in
set_option maxHeartbeats 4000000 in
theorem sym9 (w1 w : World) (g k : Nat) (h : Mk w1 g k w) (hg0 : 0 < g) (hk : k ≤ 65536) :
    Calls Tryd.prog 9 #[.pointer (some ⟨g, 0, none⟩), .int .u8 0, .string ByteArray.empty] w (fun e w' => (∃ v, e = .returned v) ∧ Mk w1 g (k + 1) w') := by
  obtain ⟨a, c, hP, hI, hO, hN, hB⟩ := h
  have HP := Lib.hid hP
  have HI := Lib.hid hI
  have HO := Lib.hid hO
  have HN := Lib.hid hN
  have HB := Lib.hid hB
  clear hP hI hO hN hB
  go_enter Tryd.func9, Tryd.ntmps9
  go_wp2_with fail
  refine (new13 w g g k 0 false a c none ByteArray.empty 4294967295 4294967295 _ HP.out HI.out HO.out HN.out (Nat.le_of_lt HP.out.lt) (by omega)).mono ?_
  rintro e w' ⟨rfl, q, cap, hP2, hO2, hq, hqg, hT⟩
  have hI2 : Inv w' 4294967295 4294967295 := HI.out.touch hT (by
    rintro (h | h)
    · omega
    · have := (HO.out.lt 0 h).1; omega)
  have HM : Hid (Mk w1 g (k + 1) w') := Lib.hid ⟨_, cap, hP2, hI2, by rw [flat_snoc]; exact hO2, by simp [Value.ownBlock, hqg], HB.out.trans (hT.below (Nat.le_of_lt HP.out.lt) (by
    rintro b (rfl | h)
    · exact Nat.le_refl _
    · exact (HO.out.lt b h).1))⟩
  have hz := hP2.lt
  clear hP2 hO2 hq hqg hT hI2
  go_simp
  go_wp2_with fail
  go_region
  go_wp2_with fail
  go_ret2
  refine ⟨⟨_, rfl⟩, ?_⟩
  exact HM.out.below (((Below.refl _ _).alloc (Nat.le_refl _) _).trans ⟨rfl, rfl, rfl, Nat.le_refl _, fun _ _ => rfl⟩)
theorem flat_get (l : List Value) : ∀ (k i r : Nat), i < k → r < l.length → (List.replicate k l).flatten[i * l.length + r]? = l[r]?
  | 0, i, r, h, _ => by omega
  | k + 1, i, r, h, hr => by
    rw [List.replicate_succ, List.flatten_cons]
    cases i with
    | zero => rw [Nat.zero_mul, Nat.zero_add, List.getElem?_append_left hr]
    | succ i =>
      rw [List.getElem?_append_right (by rw [Nat.succ_mul]; omega)]
      rw [show (i + 1) * l.length + r - l.length = i * l.length + r by rw [Nat.succ_mul]; omega]
      exact flat_get l k i r (by omega) hr
/-- When all are made: a table without links. -/
theorem Mk.done {w1 wr : World} {g n : Nat} (h : Mk w1 g n wr) (hn : 0 < n) (hs : n ≤ 65536) (hg : 0 < g) : ∃ B c, Pr wr g B n c (fun _ => none) := by
  obtain ⟨a, c, hP, hI, hO, hN, hB⟩ := h
  have hO' := hO
  rcases hO.2 with ⟨_, h0⟩ | ⟨B, cap, cur, e, hb, hh, h3, h4, h5, h6⟩
  · omega
  · simp only [Value.slice.injEq, true_and] at e
    obtain ⟨rfl, rfl⟩ := e
    have hne : g ≠ B := fun e => hN (by simp [Value.ownBlock, e])
    have hc : ∀ i r v, i < n → r < 10 → (symC ByteArray.empty 0 4294967295 4294967295)[r]? = some v → wr.cell? ⟨B, i * 10 + r, none⟩ = some v := fun i r v hi hr hv => by
      rw [hO'.cellAt (i * 10 + r) (by omega)]
      have := flat_get (symC ByteArray.empty 0 4294967295 4294967295) n i r hi (by simpa [symC] using hr)
      rw [show (symC ByteArray.empty 0 4294967295 4294967295).length = 10 from rfl] at this
      rw [this, hv]
    exact ⟨B, c, hI, hg, by omega, h3, hs, (fun i j hi hj => by cases hj), hP.c106, fun i hi => hc i 2 _ hi (by omega) rfl, fun i hi => hc i 3 _ hi (by omega) rfl, fun i hi => hc i 4 _ hi (by omega) rfl, fun i hi => hc i 7 _ hi (by omega) rfl, fun o => frozen_of_row wr B o _ _ hh, lt_of_block hh⟩
theorem Mk.start {w w' : World} {e : Ending} (h : NewP w e w') (hI : Inv w 4294967295 4294967295) : Mk w w.heap.size 0 w' := by
  obtain ⟨_, hP, hB⟩ := h
  exact ⟨none, 0, hP, hI.touch (Touch.of_below hB (fun _ => False)) (fun h => h), ⟨rfl, .inl ⟨rfl, rfl⟩⟩, by simp [Value.ownBlock], hB⟩
theorem Mk.bel {w1 wr : World} {g k : Nat} (h : Mk w1 g k wr) : Below g w1 wr := by
  obtain ⟨a, c, hP, hI, hO, hN, hB⟩ := h; exact hB
theorem field1 (w : World) (a b : Int) : (Instr.field 161 (.agg #[.int .u32 a, .int .u32 b]) 1).run Tryd.prog w = .ok (.int .u32 b) w := by kernel_rfl
set_option maxRecDepth 100000 in
set_option maxHeartbeats 1000000 in
theorem merge11 (w : World) (g B n c : Nat) (l : Nat → Option Nat) (old new ro rn : Nat) (hP : Pr w g B n c l) (ho : old < n) (hn : new < n) (h1 : Rt l old ro) (h2 : Rt l new rn) :
    Calls Tryd.prog 11 #[.pointer (some ⟨g, 0, none⟩), .int .u32 old, .int .u32 new] w (fun e w' => ∃ l' got, e = .returned (.int .u32 (got : Nat)) ∧ Mg n l l' old new ro rn got ∧ Pr w' g B n c l' ∧ Touch (fun k => k = B) w w') := by
  obtain ⟨d1, h1⟩ := h1
  obtain ⟨d2, h2⟩ := h2
  have HC := Lib.hid (merge14 (d1 + d2) w g B n c l old new ro rn d1 d2 hP ho hn h1 h2 (Nat.le_refl _))
  clear hP h1 h2
  go_enter Tryd.func11, Tryd.ntmps11
  go_wp2_with fail
  refine HC.out.mono ?_
  rintro e w' ⟨l', got, rfl, hM, hP, hT⟩
  have HM := Lib.hid hM
  have HP := Lib.hid hP
  have HT := Lib.hid hT
  clear hM hP hT
  have hp1 := field1
  go_simp
  go_wp2_with fail
  go_ret
  exact ⟨l', got, rfl, HM.out, HP.out, HT.out⟩
end Go.Proofs.YtnemldibhdphoaaDoor.lk
