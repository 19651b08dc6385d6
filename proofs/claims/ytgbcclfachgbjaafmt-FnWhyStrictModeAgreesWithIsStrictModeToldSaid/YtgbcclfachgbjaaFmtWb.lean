/-
  Why a scope is strict: the new parser.
-/
import Derived.Test.YtgbcclfachgbjaaFmtWa
import Derived.Deep.MidRow
namespace Go.Proofs.YtgbcclfachgbjaaFmt.ws
open Go.ChangeShapes Go.WideShapes Go.ChangeAt Go.RowKit Go.Deep
set_option linter.unusedVariables false
set_option linter.unusedSimpArgs false
set_option maxRecDepth 100000
set_option maxHeartbeats 4000000
/-- Block g is a row of N cells of element type T, cell p holding G p; it may be written. -/
def RowG (w : World) (g : Nat) (T : TypeId) (N : Nat) (G : Nat → Value) : Prop :=
  ∃ arr, w.heap[g]? = some (.cells arr T (0, 0)) ∧ arr.size = N ∧ ∀ p, p < N → arr[p]? = some (G p)
section
variable {w w' : World} {g N : Nat} {T : TypeId} {G : Nat → Value}
theorem RowG.lt (h : RowG w g T N G) : g < w.heap.size := by
  obtain ⟨arr, h1, _, _⟩ := h
  exact lt_of_block h1
theorem RowG.cell (h : RowG w g T N G) {p : Nat} (hp : p < N) : w.cell? ⟨g, p, none⟩ = some (G p) := by
  obtain ⟨arr, h1, _, h3⟩ := h
  rw [cell_of_row w g p _ _ _ h1]
  exact h3 p hp
theorem RowG.frozen (h : RowG w g T N G) (p : Nat) : w.frozen? ⟨g, p, none⟩ = false := by
  obtain ⟨arr, h1, _, _⟩ := h
  exact frozen_of_row w g p _ _ h1
theorem RowG.set (h : RowG w g T N G) (p : Nat) (v : Value) : RowG (w.setCell ⟨g, p, none⟩ v) g T N (fun q => if q = p then v else G q) := by
  obtain ⟨arr, h1, h2, h3⟩ := h
  refine ⟨_, heap_setCell_same w g p arr T v h1, by simpa using h2, fun q hq => ?_⟩
  by_cases e : p = q
  · subst e
    rw [Array.getElem?_setIfInBounds_self_of_lt (by omega)]
    simp
  · rw [Array.getElem?_setIfInBounds_ne e]
    show arr[q]? = some (if q = p then v else G q)
    rw [if_neg (by omega)]
    exact h3 q hq
theorem RowG.ext {G' : Nat → Value} (h : RowG w g T N G) (e : ∀ p, p < N → G p = G' p) : RowG w g T N G' := by
  obtain ⟨arr, h1, h2, h3⟩ := h
  exact ⟨arr, h1, h2, fun p hp => by rw [h3 p hp, e p hp]⟩
theorem RowG.drew (h : RowG w g T N G) : RowG w.drew g T N G := h
theorem RowG.of_block (h : RowG w g T N G) (e : w'.heap[g]? = w.heap[g]?) : RowG w' g T N G := by
  obtain ⟨arr, h1, h2, h3⟩ := h
  exact ⟨arr, e.trans h1, h2, h3⟩
theorem RowG.below {B : Nat} (h : RowG w g T N G) (hb : Below B w w') (hg : g < B) : RowG w' g T N G := h.of_block (hb.block g hg)
theorem RowG.alloc (h : RowG w g T N G) (o : Obj) : RowG (w.alloc o) g T N G := h.below ((Below.refl _ _).alloc (Nat.le_refl _) o) h.lt
theorem RowG.other (h : RowG w g T N G) (a : Addr) (v : Value) (hg : g ≠ a.block) : RowG (w.setCell a v) g T N G := h.of_block (Below.heap_setCell _ _ _ _ hg)
end
theorem RowG.made (w : World) (T : TypeId) (arr : Array Value) (G : Nat → Value) (h : ∀ p, p < arr.size → arr[p]? = some (G p)) : RowG (w.alloc (.cells arr T)) w.heap.size T arr.size G :=
  ⟨arr, heap_alloc_new w _, rfl, h⟩

/-- Nothing but block g has changed; no block has gone or come. -/
def Only (g : Nat) (w w' : World) : Prop := w'.heap.size = w.heap.size ∧ (∀ k, k ≠ g → w'.heap[k]? = w.heap[k]?) ∧ ∀ B, B ≤ g → Below B w w'
theorem Only.refl (g : Nat) (w : World) : Only g w w := ⟨rfl, fun _ _ => rfl, fun B _ => Below.refl B w⟩
theorem Only.drew {g : Nat} {w w' : World} (h : Only g w w') : Only g w w'.drew := ⟨h.1, h.2.1, fun B hB => (h.2.2 B hB).drew⟩
theorem Only.set {g : Nat} {w w' : World} (h : Only g w w') (p : Nat) (v : Value) : Only g w (w'.setCell ⟨g, p, none⟩ v) :=
  ⟨by rw [← h.1]; simp, fun k hk => (Below.heap_setCell _ _ _ _ (by exact hk)).trans (h.2.1 k hk), fun B hB => (h.2.2 B hB).setCell (by exact hB) _⟩
theorem Only.row {g g' N : Nat} {T : TypeId} {G : Nat → Value} {w w' : World} (h : Only g w w') (r : RowG w g' T N G) (hg : g' ≠ g) : RowG w' g' T N G := r.of_block (h.2.1 g' hg)
theorem Only.trans {g : Nat} {a b c : World} (h : Only g a b) (k : Only g b c) : Only g a c := ⟨k.1.trans h.1, fun i hi => (k.2.1 i hi).trans (h.2.1 i hi), fun B hB => (h.2.2 B hB).trans (k.2.2 B hB)⟩

/-- The cells of a literal of type 171: the named fields as given, all else zero. -/
noncomputable def wp  : Array Value := (Tryf.prog.built 171 []).getD #[]
theorem wp_built  : Tryf.prog.built 171 [] = some (wp ) := by kernel_rfl
theorem wp_wp {o : Oper} {a : Act} {w : World} {K : Act → World → Prop} {Q : Exit → Act → World → Prop} (ho : o.op = .build 171 #[]) 
    (h : K (a.put o.dst (.agg (wp ))) w) : o.wp Tryf.prog a w K Q := by
  refine wp_build 171 _ ho ?_ ?_
  · simp only [List.map_toArray, List.map_nil, wp_built]; rfl
  · simp only [List.map_toArray, List.map_nil, wp_built, Option.getD_some]; exact h


/-- A new tracker's cells. -/
abbrev trk : Value := .agg #[str0, str0, str0, .int .i32 0, .int .i32 0, .int .i32 0, .int .i32 0, .bool true, .bool false, .bool true]
theorem mk8 (w : World) (b o : Nat) (c0 : w.cell? ⟨b, o, none⟩ = some str0) (c1 : w.cell? ⟨b, o + 1, none⟩ = some str0) (c3 : w.cell? ⟨b, o + 3, none⟩ = some str0) :
    Calls Tryf.prog 8 #[ptr b o] w fun e w' => e = .returned trk ∧ Below w.heap.size w w' := by
  have hl : b < w.heap.size := block_lt_of_cell c0
  go_enter Tryf.func8, Tryf.ntmps8
  go_wp2_with fail
  go_region
  all_goals
    go_wp2_with fail
    refine bodyPost_ret (v := trk) (by simp [results, Tryf.results8, go_sem]) rfl ⟨rfl, ((Below.refl _ _).alloc (Nat.le_refl _) _).drew⟩
noncomputable def G0 (q : Nat) : Value := (wp[q]?).getD undef
theorem wp_size : wp.size = 353 := by kernel_rfl
theorem wp_57 : wp[57]? = some str0 := by kernel_rfl
theorem wp_58 : wp[58]? = some str0 := by kernel_rfl
theorem wp_60 : wp[60]? = some str0 := by kernel_rfl
theorem wp_row (w : World) : RowG (w.alloc (.cells wp 171)) w.heap.size 171 353 G0 := by
  refine ⟨wp, heap_alloc_new _ _, wp_size, fun q hq => ?_⟩
  rw [Array.getElem?_eq_getElem (by rw [wp_size]; exact hq)]
  unfold G0
  rw [Array.getElem?_eq_getElem (by rw [wp_size]; exact hq)]
  rfl
/-- Cells stored in the middle of a row. -/
theorem RowG.mid {g N : Nat} {T : TypeId} : ∀ (vs : List Value) (o : Nat) (w : World) (G : Nat → Value), RowG w g T N G → o + vs.length ≤ N →
    ∃ G', RowG (w.setCells g o vs) g T N G' ∧ (∀ q, q < o ∨ o + vs.length ≤ q → G' q = G q) ∧ ∀ j v, vs[j]? = some v → G' (o + j) = v
  | [], o, w, G, h, _ => ⟨G, h, fun _ _ => rfl, fun j v h => by simp at h⟩
  | v :: vs, o, w, G, h, hl => by
    simp only [List.length_cons] at hl
    obtain ⟨G', h1, h2, h3⟩ := RowG.mid vs (o + 1) (w.setCell ⟨g, o, none⟩ v) _ (h.set o v) (by omega)
    refine ⟨G', h1, fun q hq => ?_, fun j u hu => ?_⟩
    · simp only [List.length_cons] at hq
      rw [h2 q (by omega), if_neg (by omega)]
    · cases j with
      | zero =>
        have : v = u := by simpa using hu
        subst this
        rw [Nat.add_zero, h2 o (by omega), if_pos rfl]
      | succ j =>
        rw [show o + (j + 1) = o + 1 + j by omega]
        exact h3 j u (by simpa using hu)
theorem setCells_below {b B : Nat} (hB : B ≤ b) : ∀ (vs : List Value) (o : Nat) (w0 w : World), Below B w0 w → Below B w0 (w.setCells b o vs)
  | [], _, _, _, h => h
  | v :: vs, o, w0, w, h => setCells_below hB vs (o + 1) w0 _ (h.setCell (by exact hB) v)
theorem setCells_other {b k : Nat} (hk : k ≠ b) : ∀ (vs : List Value) (o : Nat) (w : World), (w.setCells b o vs).heap[k]? = w.heap[k]?
  | [], _, _ => rfl
  | v :: vs, o, w => (setCells_other hk vs (o + 1) _).trans (Below.heap_setCell _ _ _ _ (by exact hk))
theorem RowG.there {w : World} {g N : Nat} {T : TypeId} {G : Nat → Value} (h : RowG w g T N G) (o n : Nat) (hn : o + n ≤ N) : w.there g o n := fun j hj => ⟨by rw [h.cell (by omega)]; rfl, h.frozen _⟩
/-- The parser at block p, as far as it is told. -/
structure Pr (w0 W : World) (p : Nat) (G : Nat → Value) : Prop where
  row : RowG W p 171 353 G
  bel : Below w0.heap.size w0 W
  ge : w0.heap.size ≤ p
theorem Pr.mid {w0 W : World} {p : Nat} {G : Nat → Value} (h : Pr w0 W p G) (o : Nat) (vs : List Value) (hl : o + vs.length ≤ 353) :
    ∃ G', Pr w0 (W.setCells p o vs) p G' ∧ (∀ q, q < o ∨ o + vs.length ≤ q → G' q = G q) ∧ ∀ j v, vs[j]? = some v → G' (o + j) = v := by
  obtain ⟨G', h1, h2, h3⟩ := RowG.mid vs o W G h.row hl
  exact ⟨G', ⟨h1, setCells_below h.ge vs o _ _ h.bel, h.ge⟩, h2, h3⟩
def trkL : List Value := [str0, str0, str0, .int .i32 0, .int .i32 0, .int .i32 0, .int .i32 0, .bool true, .bool false, .bool true]
/-- A place of the parser that nobody writes. -/
def Free (q : Nat) : Prop := q < 353 ∧ (q < 67 ∨ 77 ≤ q) ∧ q ≠ 13 ∧ q ≠ 104 ∧ (q < 314 ∨ 320 ≤ q) ∧ q ≠ 322 ∧ q ≠ 323
def recC : Array Value := #[str0, str0, str0, str0, str0, str0, str0, str0, str0, .int .u8 0, .int .u32 0, .int .i32 0, .int .i32 0, .bool false]
/-- The parser at block p: its tracker, its keywords' lengths, its record at block ts. -/
structure Ps (w : World) (p ts : Nat) (x1 x2 x3 x4 : Int) (h : Bool) : Prop where
  tk : Tk w p 67 h
  free : ∀ q, Free q → w.cell? ⟨p, q, none⟩ = some (G0 q)
  c13 : w.cell? ⟨p, 13, none⟩ = some (ptr ts 0)
  c104 : ∃ v, w.cell? ⟨p, 104, none⟩ = some v
  r1 : w.cell? ⟨p, 318, none⟩ = some (.int .i32 0) ∧ w.cell? ⟨p, 319, none⟩ = some (.int .i32 x1)
  r2 : w.cell? ⟨p, 316, none⟩ = some (.int .i32 0) ∧ w.cell? ⟨p, 317, none⟩ = some (.int .i32 x2)
  r3 : w.cell? ⟨p, 322, none⟩ = some (.int .i32 0) ∧ w.cell? ⟨p, 323, none⟩ = some (.int .i32 x3)
  r4 : w.cell? ⟨p, 314, none⟩ = some (.int .i32 0) ∧ w.cell? ⟨p, 315, none⟩ = some (.int .i32 x4)
  recd : w.heap[ts]? = some (.cells recC 174 (0, 0))
  ne : ts ≠ p
def NewP (w : World) (x1 x2 x3 x4 : Int) (e : Ending) (w' : World) : Prop := ∃ p ts, e = .returned (ptr p 0) ∧ Ps w' p ts x1 x2 x3 x4 false ∧ w.heap.size ≤ p ∧ Below w.heap.size w w'
theorem new4 (w : World) (x1 x2 x3 x4 : Int) : Calls Tryf.prog 4 #[.int .i32 x1, .int .i32 x2, .int .i32 x3, .int .i32 x4] w (NewP w x1 x2 x3 x4) := by
  go_enter Tryf.func4, Tryf.ntmps4
  go_wp2_with fail
  refine wp_wp rfl ?_
  go_simp
  go_upto_region 2 with fail
  generalize hw1 : (w.alloc (.cells wp 171)) = w1
  generalize Value.agg wp = a10
  have hr := wp_row w
  have hb0 := (Below.refl w.heap.size w).alloc (Nat.le_refl _) (.cells wp 171)
  rw [hw1] at hr hb0
  clear hw1
  have k0 : w1.cell? ⟨w.heap.size, 57, none⟩ = some str0 := by rw [hr.cell (by omega)]; unfold G0; rw [wp_57]; rfl
  have k1 : w1.cell? ⟨w.heap.size, 57 + 1, none⟩ = some str0 := by rw [hr.cell (by omega)]; unfold G0; rw [wp_58]; rfl
  have k3 : w1.cell? ⟨w.heap.size, 57 + 3, none⟩ = some str0 := by rw [hr.cell (by omega)]; unfold G0; rw [wp_60]; rfl
  have HR := Lib.hid (Pr.mk hr hb0 (Nat.le_refl _))
  have HK := Lib.hid (And.intro k0 (And.intro k1 k3))
  clear hr k0 k1 k3 hb0
  go_upto_region 3 with (first
    | (go_at_call 8; refine (mk8 _ w.heap.size 57 HK.out.1 HK.out.2.1 HK.out.2.2).mono ?_; rintro _ W ⟨rfl, hb⟩; have HRW := Lib.hid (Pr.mk (HR.out.row.below hb HR.out.row.lt) (HR.out.bel.trans (hb.mono HR.out.bel.size)) (Nat.le_refl w.heap.size)); clear hb HR HK)
    | (refine wpList_store_mid rfl 104 _ _ rfl w.heap.size 67 #[str0, str0, str0, .int .i32 0, .int .i32 0, .int .i32 0, .int .i32 0, .bool true, .bool false, .bool true] rfl rfl (HRW.out.row.there 67 10 (by omega)) (by kernel_rfl) (by kernel_rfl) ?_))
  simp only [Act.put]
  obtain ⟨G1, HP1, a1, b1⟩ := HRW.out.mid 67 [str0, str0, str0, .int .i32 0, .int .i32 0, .int .i32 0, .int .i32 0, .bool true, .bool false, .bool true] (by simp)
  have HP1 := Lib.hid HP1
  have HG1 := Lib.hid (And.intro a1 b1)
  clear a1 b1 HRW
  generalize W.setCells w.heap.size 67 [str0, str0, str0, .int .i32 0, .int .i32 0, .int .i32 0, .int .i32 0, .bool true, .bool false, .bool true] = W2 at *
  have c13 : W2.cell? ⟨w.heap.size, 13, none⟩ = some (G1 13) := HP1.out.row.cell (by omega)
  have z13 : W2.frozen? ⟨w.heap.size, 13, none⟩ = false := HP1.out.row.frozen 13
  have hlt : w.heap.size < W2.heap.size := HP1.out.row.lt
  generalize G1 13 = old at c13
  go_upto_region 4 with fail
  have hrow2 := ((HP1.out.row.set 13 (ptr W2.heap.size 0)).alloc (.cells recC 174))
  have hbel2 := ((HP1.out.bel.setCell (p := ⟨w.heap.size, 13, none⟩) (Nat.le_refl _) (ptr W2.heap.size 0)).alloc (by simp [World.setCell]; omega) (.cells recC 174))
  have hrec := heap_alloc_new (W2.setCell ⟨w.heap.size, 13, none⟩ (ptr W2.heap.size 0)) (.cells recC 174)
  rw [show (W2.setCell ⟨w.heap.size, 13, none⟩ (ptr W2.heap.size 0)).heap.size = W2.heap.size by simp [World.setCell]] at hrec
  have HP2 := Lib.hid (Pr.mk hrow2 hbel2 (Nat.le_refl _))
  have HREC := Lib.hid hrec
  clear hrow2 hbel2 hrec c13 z13
  change Code.wp _ _ _ _ ((W2.setCell ⟨w.heap.size, 13, none⟩ (ptr W2.heap.size 0)).alloc (.cells recC 174))
  generalize (W2.setCell ⟨w.heap.size, 13, none⟩ (ptr W2.heap.size 0)).alloc (.cells recC 174) = W3 at *
  generalize W2.heap.size = ts at *
  go_upto_region 5 with (refine wpList_store_mid rfl 65 _ _ rfl w.heap.size 318 #[.int .i32 0, .int .i32 x1] rfl rfl (HP2.out.row.there 318 2 (by omega)) (by kernel_rfl) (by kernel_rfl) ?_)
  simp only [Act.put]
  obtain ⟨g0, hp0, a0, b0⟩ := HP2.out.mid 318 [.int .i32 0, .int .i32 x1] (by simp)
  have HP3 := Lib.hid hp0
  have HE0 := Lib.hid (And.intro a0 b0)
  have HREC := Lib.hid ((setCells_other (show ts ≠ w.heap.size by omega) [.int .i32 0, .int .i32 x1] 318 W3).trans HREC.out)
  clear hp0 a0 b0 HP2
  change Code.wp _ _ _ _ (W3.setCells w.heap.size 318 [.int .i32 0, .int .i32 x1])
  generalize W3.setCells w.heap.size 318 [.int .i32 0, .int .i32 x1] = W4 at *
  go_upto_region 6 with (refine wpList_store_mid rfl 65 _ _ rfl w.heap.size 316 #[.int .i32 0, .int .i32 x2] rfl rfl (HP3.out.row.there 316 2 (by omega)) (by kernel_rfl) (by kernel_rfl) ?_)
  simp only [Act.put]
  obtain ⟨g1, hp1, a1, b1⟩ := HP3.out.mid 316 [.int .i32 0, .int .i32 x2] (by simp)
  have HP4 := Lib.hid hp1
  have HE1 := Lib.hid (And.intro a1 b1)
  have HREC := Lib.hid ((setCells_other (show ts ≠ w.heap.size by omega) [.int .i32 0, .int .i32 x2] 316 W4).trans HREC.out)
  clear hp1 a1 b1 HP3
  change Code.wp _ _ _ _ (W4.setCells w.heap.size 316 [.int .i32 0, .int .i32 x2])
  generalize W4.setCells w.heap.size 316 [.int .i32 0, .int .i32 x2] = W5 at *
  go_upto_region 7 with (refine wpList_store_mid rfl 65 _ _ rfl w.heap.size 322 #[.int .i32 0, .int .i32 x3] rfl rfl (HP4.out.row.there 322 2 (by omega)) (by kernel_rfl) (by kernel_rfl) ?_)
  simp only [Act.put]
  obtain ⟨g2, hp2, a2, b2⟩ := HP4.out.mid 322 [.int .i32 0, .int .i32 x3] (by simp)
  have HP5 := Lib.hid hp2
  have HE2 := Lib.hid (And.intro a2 b2)
  have HREC := Lib.hid ((setCells_other (show ts ≠ w.heap.size by omega) [.int .i32 0, .int .i32 x3] 322 W5).trans HREC.out)
  clear hp2 a2 b2 HP4
  change Code.wp _ _ _ _ (W5.setCells w.heap.size 322 [.int .i32 0, .int .i32 x3])
  generalize W5.setCells w.heap.size 322 [.int .i32 0, .int .i32 x3] = W6 at *
  go_upto_region 8 with (refine wpList_store_mid rfl 65 _ _ rfl w.heap.size 314 #[.int .i32 0, .int .i32 x4] rfl rfl (HP5.out.row.there 314 2 (by omega)) (by kernel_rfl) (by kernel_rfl) ?_)
  simp only [Act.put]
  obtain ⟨g3, hp3, a3, b3⟩ := HP5.out.mid 314 [.int .i32 0, .int .i32 x4] (by simp)
  have HP6 := Lib.hid hp3
  have HE3 := Lib.hid (And.intro a3 b3)
  have HREC := Lib.hid ((setCells_other (show ts ≠ w.heap.size by omega) [.int .i32 0, .int .i32 x4] 314 W6).trans HREC.out)
  clear hp3 a3 b3 HP5
  change Code.wp _ _ _ _ (W6.setCells w.heap.size 314 [.int .i32 0, .int .i32 x4])
  generalize W6.setCells w.heap.size 314 [.int .i32 0, .int .i32 x4] = W7 at *
  go_wp2_with fail
  go_ret
  have u3 : ∀ q, q < 314 ∨ 316 ≤ q → g3 q = g2 q := fun q h => HE3.out.1 q (by simpa using h)
  have u2 : ∀ q, q < 322 ∨ 324 ≤ q → g2 q = g1 q := fun q h => HE2.out.1 q (by simpa using h)
  have u1 : ∀ q, q < 316 ∨ 318 ≤ q → g1 q = g0 q := fun q h => HE1.out.1 q (by simpa using h)
  have u0 : ∀ q, q < 318 ∨ 320 ≤ q → g0 q = if q = 13 then ptr ts 0 else G1 q := fun q h => HE0.out.1 q (by simpa using h)
  have ug : ∀ q, q < 67 ∨ 77 ≤ q → G1 q = G0 q := fun q h => HG1.out.1 q (by simpa using h)
  have cc : ∀ q, q < 353 → W7.cell? ⟨w.heap.size, q, none⟩ = some (g3 q) := fun q hq => HP6.out.row.cell hq
  have dn : ∀ q, q < 314 ∨ 320 ≤ q → q ≠ 322 → q ≠ 323 → q ≠ 13 → g3 q = G1 q := fun q h1 h2 h3 h4 => by
    rw [u3 q (by omega), u2 q (by omega), u1 q (by omega), u0 q (by omega), if_neg h4]
  have tt : ∀ j v, [str0, str0, str0, Value.int .i32 0, .int .i32 0, .int .i32 0, .int .i32 0, .bool true, .bool false, .bool true][j]? = some v → j < 10 → W7.cell? ⟨w.heap.size, 67 + j, none⟩ = some v := fun j v hv hj => by
    rw [cc (67 + j) (by omega), dn (67 + j) (by omega) (by omega) (by omega) (by omega), HG1.out.2 j v hv]
  refine ⟨w.heap.size, ts, rfl, ⟨⟨tt 0 _ rfl (by omega), tt 1 _ rfl (by omega), tt 2 _ rfl (by omega), tt 3 _ rfl (by omega), tt 4 _ rfl (by omega), tt 5 _ rfl (by omega), tt 6 _ rfl (by omega), tt 7 _ rfl (by omega), tt 8 _ rfl (by omega), tt 9 _ rfl (by omega), fun q => HP6.out.row.frozen q⟩, fun q hq => ?_, ?_, ⟨_, cc 104 (by omega)⟩, ⟨?_, ?_⟩, ⟨?_, ?_⟩, ⟨?_, ?_⟩, ⟨?_, ?_⟩, HREC.out, by omega⟩, Nat.le_refl _, HP6.out.bel⟩
  · obtain ⟨h1, h2, h3, h4, h5, h6, h7⟩ := hq
    rw [cc q h1, dn q h5 h6 h7 h3, ug q h2]
  · rw [cc 13 (by omega), u3 13 (by omega), u2 13 (by omega), u1 13 (by omega), u0 13 (by omega), if_pos rfl]
  · rw [cc 318 (by omega), u3 318 (by omega), u2 318 (by omega), u1 318 (by omega), HE0.out.2 0 _ rfl]
  · rw [cc 319 (by omega), u3 319 (by omega), u2 319 (by omega), u1 319 (by omega), HE0.out.2 1 _ rfl]
  · rw [cc 316 (by omega), u3 316 (by omega), u2 316 (by omega), HE1.out.2 0 _ rfl]
  · rw [cc 317 (by omega), u3 317 (by omega), u2 317 (by omega), HE1.out.2 1 _ rfl]
  · rw [cc 322 (by omega), u3 322 (by omega), HE2.out.2 0 _ rfl]
  · rw [cc 323 (by omega), u3 323 (by omega), HE2.out.2 1 _ rfl]
  · rw [cc 314 (by omega), HE3.out.2 0 _ rfl]
  · rw [cc 315 (by omega), HE3.out.2 1 _ rfl]
end Go.Proofs.YtgbcclfachgbjaaFmt.ws
