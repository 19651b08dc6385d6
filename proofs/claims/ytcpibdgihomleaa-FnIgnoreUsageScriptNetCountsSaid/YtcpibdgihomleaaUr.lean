/-
  The usage counts of a parser: a new one; its readers.
-/
import Derived.Test.YtcpibdgihomleaaUs
namespace Go.Proofs.Ytcpibdgihomleaa.us
open Go.ChangeShapes Go.WideShapes Go.ChangeAt Go.RowKit Go.Deep Go.Proofs.Ytcpibdgihomleaa.mk
set_option linter.unusedVariables false

theorem St.anyE {w : World} {g n : Nat} {dead ts : Bool} {U C E : Nat → Nat} (h : St w g n dead ts false U C E) (E' : Nat → Nat) : St w g n dead ts false U C E' :=
  ⟨h.c350, h.c32, h.c105, h.c106, h.c108, h.colU, h.colC, fun h => (by cases h), h.sz⟩
theorem UseP.anyE {w : World} {g n : Nat} {dead ts : Bool} {U C E : Nat → Nat} {e : Ending} {w' : World} (h : UseP w g n dead ts false U C E e w') (E' : Nat → Nat) : UseP w g n dead ts false U C E' e w' := ⟨h.1, h.2.1.anyE E', h.2.2⟩
def up (b : Bool) (U : Nat → Nat) (i x : Nat) : Nat → Nat := if b then U else inc U i x
theorem rec12 (w : World) (g n i : Nat) (dead ts pt : Bool) (U C E : Nat → Nat) (h : St w g n dead ts pt U C E) (hi : i < n) (hn : n ≤ 4096) (hU : U i ≤ 1000000) (hE : E i ≤ 1000000) (hC : C i ≤ 1000000) :
    Calls Try.prog 12 #[.pointer (some ⟨g, 0, none⟩), .agg #[.int .u32 0, .int .u32 i]] w (UseP w g n dead ts pt (up dead U i (U i + 1)) (up (!ts) C i (C i + 1)) (up dead E i (E i + 1))) := by
  cases dead <;> cases ts <;> cases pt
  · exact (t12_false_false_false w g n i U C E h hi hn hU hE hC).mono fun _ _ h => h.anyE _
  · exact t12_false_true_false w g n i U C E h hi hn hU hE hC
  · exact (t12_false_false_true w g n i U C E h hi hn hU hE hC).mono fun _ _ h => h.anyE _
  · exact t12_false_true_true w g n i U C E h hi hn hU hE hC
  · exact t12_true_false_false w g n i U C E h hi hn hU hE hC
  · exact t12_true_true_false w g n i U C E h hi hn hU hE hC
  · exact t12_true_false_true w g n i U C E h hi hn hU hE hC
  · exact t12_true_true_true w g n i U C E h hi hn hU hE hC
theorem ign13 (w : World) (g n i : Nat) (dead ts pt : Bool) (U C E : Nat → Nat) (h : St w g n dead ts pt U C E) (hi : i < n) (hn : n ≤ 4096) (hU : U i ≤ 1000000) (hE : E i ≤ 1000000) (hC : C i ≤ 1000000) (h0 : dead = false → 0 < U i ∧ 0 < E i) :
    Calls Try.prog 13 #[.pointer (some ⟨g, 0, none⟩), .agg #[.int .u32 0, .int .u32 i]] w (UseP w g n dead ts pt (up dead U i (U i - 1)) C (up dead E i (E i - 1))) := by
  cases dead
  · obtain ⟨h1, h2⟩ := h0 rfl
    cases pt
    · cases ts
      · exact (t13_false_false_false w g n i U C E h hi hn hU hE hC h1).mono fun _ _ h => h.anyE _
      · exact (t13_false_false_true w g n i U C E h hi hn hU hE hC h1).mono fun _ _ h => h.anyE _
    · by_cases e : E i = 1
      · cases ts
        · exact t13_false_true_false_1 w g n i U C E h hi hn hU hE hC h1 h2 e
        · exact t13_false_true_true_1 w g n i U C E h hi hn hU hE hC h1 h2 e
      · cases ts
        · exact t13_false_true_false_0 w g n i U C E h hi hn hU hE hC h1 h2 e
        · exact t13_false_true_true_0 w g n i U C E h hi hn hU hE hC h1 h2 e
  · cases ts <;> cases pt
    · exact t13_true_false_false w g n i U C E h hi hn hU hE hC
    · exact t13_true_true_false w g n i U C E h hi hn hU hE hC
    · exact t13_true_false_true w g n i U C E h hi hn hU hE hC
    · exact t13_true_true_true w g n i U C E h hi hn hU hE hC

theorem rec6 (w : World) (g i : Nat) (Q : Ending → World → Prop) (h : Calls Try.prog 12 #[.pointer (some ⟨g, 0, none⟩), .agg #[.int .u32 0, .int .u32 i]] w (fun e w' => e = .returned (.tuple #[]) ∧ Q e w')) :
    Calls Try.prog 6 #[.pointer (some ⟨g, 0, none⟩), .int .u32 i] w (fun e w' => e = .returned (.tuple #[]) ∧ Q e w') := by
  have H := Lib.hid h
  clear h
  go_enter Try.func6, Try.ntmps6
  go_wp2_with fail
  refine H.out.mono ?_
  rintro e w' ⟨rfl, h⟩
  have HQ := Lib.hid h
  clear h
  go_simp
  go_wp2_with fail
  go_end0
  exact ⟨rfl, HQ.out⟩

theorem ign7 (w : World) (g i : Nat) (Q : Ending → World → Prop) (h : Calls Try.prog 13 #[.pointer (some ⟨g, 0, none⟩), .agg #[.int .u32 0, .int .u32 i]] w (fun e w' => e = .returned (.tuple #[]) ∧ Q e w')) :
    Calls Try.prog 7 #[.pointer (some ⟨g, 0, none⟩), .int .u32 i] w (fun e w' => e = .returned (.tuple #[]) ∧ Q e w') := by
  have H := Lib.hid h
  clear h
  go_enter Try.func7, Try.ntmps7
  go_wp2_with fail
  refine H.out.mono ?_
  rintro e w' ⟨rfl, h⟩
  have HQ := Lib.hid h
  clear h
  go_simp
  go_wp2_with fail
  go_end0
  exact ⟨rfl, HQ.out⟩

theorem use8 (w : World) (g n i : Nat) (dead ts pt : Bool) (U C E : Nat → Nat) (h : St w g n dead ts pt U C E) (hi : i < n) (hn : n ≤ 4096) : Calls Try.prog 8 #[.pointer (some ⟨g, 0, none⟩), .int .u32 i] w fun e w' => e = .returned (.int .u32 (U i)) ∧ w = w' := by
  have c2 := h.c106
  have c3 := (h.colU.2 i hi).1
  simp only at c3
  clear h
  go_enter Try.func8, Try.ntmps8
  go_wp2
  go_ret
  exact ⟨rfl, rfl⟩
theorem ts9 (w : World) (g n i : Nat) (dead ts pt : Bool) (U C E : Nat → Nat) (h : St w g n dead ts pt U C E) (hi : i < n) (hn : n ≤ 4096) : Calls Try.prog 9 #[.pointer (some ⟨g, 0, none⟩), .int .u32 i] w fun e w' => e = .returned (.int .u32 (C i)) ∧ w = w' := by
  have c2 := h.c108
  have c3 := (h.colC.2 i hi).1
  simp only at c3
  clear h
  go_enter Try.func9, Try.ntmps9
  go_wp2
  go_ret
  exact ⟨rfl, rfl⟩
def PartP (w : World) (x : Int) (b : Bool) (e : Ending) (w' : World) : Prop := e = .returned (.tuple #[.int .u32 x, .bool b]) ∧ Below w.heap.size w w'
theorem part10n (w : World) (g n i : Nat) (dead ts : Bool) (U C E : Nat → Nat) (h : St w g n dead ts false U C E) : Calls Try.prog 10 #[.pointer (some ⟨g, 0, none⟩), .int .u32 i] w (PartP w 0 false) := by
  have c2 := h.c105
  simp only [Bool.false_eq_true, if_false] at c2
  clear h
  go_enter Try.func10, Try.ntmps10
  go_wp2
  go_ret2
  exact ⟨rfl, Below.refl _ _⟩
theorem part10 (w : World) (g n i : Nat) (dead ts : Bool) (U C E : Nat → Nat) (h : St w g n dead ts true U C E) (hi : i < n) : Calls Try.prog 10 #[.pointer (some ⟨g, 0, none⟩), .int .u32 i] w (PartP w (E i) (decide (E i ≠ 0))) := by
  have c2 := h.c105
  simp only [if_true] at c2
  have c3 := (h.mp rfl).1
  have hl := (h.mp rfl).2.look2 hi
  clear h
  generalize hd : decide (E i ≠ 0) = b at *
  clear hd
  go_enter Try.func10, Try.ntmps10
  go_wp2
  go_ret2
  exact ⟨rfl, (Below.refl _ _).alloc (Nat.le_refl _) _⟩
theorem len11n (w : World) (g n : Nat) (dead ts : Bool) (U C E : Nat → Nat) (h : St w g n dead ts false U C E) : Calls Try.prog 11 #[.pointer (some ⟨g, 0, none⟩)] w fun e w' => e = .returned (.int .i64 0) ∧ w = w' := by
  have c2 := h.c105
  simp only [Bool.false_eq_true, if_false] at c2
  clear h
  go_enter Try.func11, Try.ntmps11
  go_wp2
  go_ret
  exact ⟨rfl, rfl⟩
theorem len11 (w : World) (g n : Nat) (dead ts : Bool) (U C E : Nat → Nat) (h : St w g n dead ts true U C E) : Calls Try.prog 11 #[.pointer (some ⟨g, 0, none⟩)] w fun e w' => e = .returned (.int .i64 (cnt E n)) ∧ w = w' := by
  have c2 := h.c105
  simp only [if_true] at c2
  have c3 := (h.mp rfl).1
  have hl := (h.mp rfl).2.len 3
  clear h
  go_enter Try.func11, Try.ntmps11
  go_wp2
  go_ret
  exact ⟨rfl, rfl⟩
/-- The cells of a literal of type 159: the named fields as given, all else zero. -/
noncomputable def pc  : Array Value := (Try.prog.built 159 []).getD #[]
theorem pc_built  : Try.prog.built 159 [] = some (pc ) := by kernel_rfl
theorem pc_wp {o : Oper} {a : Act} {w : World} {K : Act → World → Prop} {Q : Exit → Act → World → Prop} (ho : o.op = .build 159 #[]) 
    (h : K (a.put o.dst (.agg (pc ))) w) : o.wp Try.prog a w K Q := by
  refine wp_build 159 _ ho ?_ ?_
  · simp only [List.map_toArray, List.map_nil, pc_built]; rfl
  · simp only [List.map_toArray, List.map_nil, pc_built, Option.getD_some]; exact h


theorem info176 : (Try.prog.info? 176).map (fun i => (i.zero.map (·.cells), i.size, i.bytes)) = some (some #[.pointer none, .string ByteArray.empty, .int .u32 0, .int .u32 0, .int .u32 0, .int .u32 0, .int .u32 0, .int .u16 0, .int .u8 0, .int .u8 0], 10, 48) := by kernel_rfl
theorem info25 : (Try.prog.info? 25).map (fun i => (i.zero, i.size, i.bytes)) = some (some (Value.int .u32 0), 1, 4) := by kernel_rfl
def symz (n : Nat) : Array Value := madeCells #[.pointer none, .string ByteArray.empty, .int .u32 0, .int .u32 0, .int .u32 0, .int .u32 0, .int .u32 0, .int .u16 0, .int .u8 0, .int .u8 0] (n * 10)
theorem symz_get (n i : Nat) (hi : i < n) : (symz n)[i * 10 + 4]? = some (.int .u32 0) := by
  simp only [symz, madeCells]
  rw [Array.getElem?_map, Array.getElem?_range, if_pos (by omega)]
  simp only [Option.map_some, List.size_toArray, List.length_cons, List.length_nil, Nat.zero_add, Nat.reduceAdd]
  rw [show (i * 10 + 4) % 10 = 4 by omega]; rfl
theorem made99 (n : Nat) (hn : n ≤ 4096) (w : World) : (Instr.makeSlice 99 (.int .i64 n) (.int .i64 n)).run Try.prog w = .ok (.slice (some ⟨w.heap.size, 0, none⟩) n n) (w.alloc (.cells (symz n) 176)) := by
  obtain ⟨i, hi, hz⟩ := Option.map_eq_some_iff.1 info176
  simp only [Prod.mk.injEq] at hz
  obtain ⟨h1, h2, h3⟩ := hz
  obtain ⟨z, hz, hzc⟩ := Option.map_eq_some_iff.1 h1
  have hr := run_make (P := Try.prog) w 99 176 i z Try.underlying99 hi hz .i64 .i64 n n (by omega) (Int.le_refl _) (by rw [h3]; omega) (by omega)
  simp only [Int.toNat_natCast, h2, hzc] at hr
  exact hr
theorem made24 (n : Nat) (hn : n ≤ 4096) (w : World) : (Instr.makeSlice 24 (.int .i64 n) (.int .i64 n)).run Try.prog w = .ok (.slice (some ⟨w.heap.size, 0, none⟩) n n) (w.alloc (.cells (madeCells #[.int .u32 0] n) 25)) :=
  run_make_row' (P := Try.prog) 24 25 (Value.int .u32 0) 4 Try.underlying24 info25 rfl .i64 .i64 n (by omega) (by omega) w
theorem madez_get (n i : Nat) (hi : i < n) : (madeCells #[Value.int .u32 0] n)[i]? = some (.int .u32 0) := by
  simp [madeCells, hi, Nat.mod_one]
theorem colz {w : World} {b n : Nat} {ad : Nat → Nat} {A : Array Value} {T : TypeId} (hb : w.heap[b]? = some (.cells A T (0, 0))) (ha : ∀ i j, ad i = ad j → i = j) (h : ∀ i, i < n → A[ad i]? = some (.int .u32 0)) : Col w b n ad (fun _ => 0) :=
  ⟨ha, fun i hi => ⟨(cell_of_row _ _ _ _ _ _ hb).trans (h i hi), frozen_of_row _ _ _ _ _ hb⟩⟩
theorem cnt_zero : ∀ n, cnt (fun _ => 0) n = 0
  | 0 => rfl
  | n + 1 => by simp [cnt, cnt_zero n]
theorem mapE_new {w : World} {b n : Nat} (h : MapIs w b RefKey 0 (fun _ => none)) : MapE w b n (fun _ => 0) := ⟨0, _, h, fun _ _ => rfl, (cnt_zero n).symm⟩
theorem st_new0 (w : World) (A : Array Value) (n : Nat) (dead ts : Bool) (h1 : A[350]? = some (.bool dead)) (h2 : A[32]? = some (.bool ts)) (h3 : A[105]? = some (.pointer none)) (h4 : A[106]? = some (.slice (some ⟨w.heap.size + 1, 0, none⟩) n n)) (h5 : A[108]? = some (.slice (some ⟨w.heap.size + 2, 0, none⟩) n n)) :
    St (((w.alloc (.cells A 159)).alloc (.cells (symz n) 176)).alloc (.cells (madeCells #[.int .u32 0] n) 25)) w.heap.size n dead ts false (fun _ => 0) (fun _ => 0) (fun _ => 0) := by
  have b0 : (((w.alloc (.cells A 159)).alloc (.cells (symz n) 176)).alloc (.cells (madeCells #[.int .u32 0] n) 25)).heap[w.heap.size]? = some (.cells A 159 (0, 0)) := by
    rw [Below.heap_alloc _ _ _ (by first | (simp; done) | (simp; omega)), Below.heap_alloc _ _ _ (by simp)]; exact heap_alloc_new w _
  have b1 : (((w.alloc (.cells A 159)).alloc (.cells (symz n) 176)).alloc (.cells (madeCells #[.int .u32 0] n) 25)).heap[w.heap.size + 1]? = some (.cells (symz n) 176 (0, 0)) := by
    rw [Below.heap_alloc _ _ _ (by simp)]
    have := heap_alloc_new (w.alloc (.cells A 159)) (.cells (symz n) 176)
    simpa using this
  have b2 : (((w.alloc (.cells A 159)).alloc (.cells (symz n) 176)).alloc (.cells (madeCells #[.int .u32 0] n) 25)).heap[w.heap.size + 2]? = some (.cells (madeCells #[.int .u32 0] n) 25 (0, 0)) := by
    have := heap_alloc_new ((w.alloc (.cells A 159)).alloc (.cells (symz n) 176)) (.cells (madeCells #[.int .u32 0] n) 25)
    simpa using this
  exact ⟨(cell_of_row _ _ _ _ _ _ b0).trans h1, (cell_of_row _ _ _ _ _ _ b0).trans h2, (cell_of_row _ _ _ _ _ _ b0).trans h3, (cell_of_row _ _ _ _ _ _ b0).trans h4, (cell_of_row _ _ _ _ _ _ b0).trans h5,
    colz b1 (fun i j h => by omega) (fun i hi => symz_get n i hi), colz b2 (fun i j h => h) (fun i hi => madez_get n i hi), fun h => (by cases h), by simp [wid]⟩
theorem st_new1 (w : World) (A Q : Array Value) (n : Nat) (dead ts : Bool) (h1 : A[350]? = some (.bool dead)) (h2 : A[32]? = some (.bool ts)) (h3 : A[105]? = some (.pointer (some ⟨w.heap.size + 4, 0, none⟩))) (h4 : A[106]? = some (.slice (some ⟨w.heap.size + 1, 0, none⟩) n n)) (h5 : A[108]? = some (.slice (some ⟨w.heap.size + 2, 0, none⟩) n n)) (hQ : Q[4]? = some (.map (some (w.heap.size + 3)))) :
    St (((((w.alloc (.cells A 159)).alloc (.cells (symz n) 176)).alloc (.cells (madeCells #[.int .u32 0] n) 25)).alloc (.map #[] 0)).alloc (.cells Q 168)) w.heap.size n dead ts true (fun _ => 0) (fun _ => 0) (fun _ => 0) := by
  have b0 : (((((w.alloc (.cells A 159)).alloc (.cells (symz n) 176)).alloc (.cells (madeCells #[.int .u32 0] n) 25)).alloc (.map #[] 0)).alloc (.cells Q 168)).heap[w.heap.size]? = some (.cells A 159 (0, 0)) := by
    rw [Below.heap_alloc _ _ _ (by first | (simp; done) | (simp; omega)), Below.heap_alloc _ _ _ (by first | (simp; done) | (simp; omega)), Below.heap_alloc _ _ _ (by first | (simp; done) | (simp; omega)), Below.heap_alloc _ _ _ (by simp)]; exact heap_alloc_new w _
  have b1 : (((((w.alloc (.cells A 159)).alloc (.cells (symz n) 176)).alloc (.cells (madeCells #[.int .u32 0] n) 25)).alloc (.map #[] 0)).alloc (.cells Q 168)).heap[w.heap.size + 1]? = some (.cells (symz n) 176 (0, 0)) := by
    rw [Below.heap_alloc _ _ _ (by first | (simp; done) | (simp; omega)), Below.heap_alloc _ _ _ (by first | (simp; done) | (simp; omega)), Below.heap_alloc _ _ _ (by simp)]
    have := heap_alloc_new (w.alloc (.cells A 159)) (.cells (symz n) 176)
    simpa using this
  have b2 : (((((w.alloc (.cells A 159)).alloc (.cells (symz n) 176)).alloc (.cells (madeCells #[.int .u32 0] n) 25)).alloc (.map #[] 0)).alloc (.cells Q 168)).heap[w.heap.size + 2]? = some (.cells (madeCells #[.int .u32 0] n) 25 (0, 0)) := by
    rw [Below.heap_alloc _ _ _ (by first | (simp; done) | (simp; omega)), Below.heap_alloc _ _ _ (by simp)]
    have := heap_alloc_new ((w.alloc (.cells A 159)).alloc (.cells (symz n) 176)) (.cells (madeCells #[.int .u32 0] n) 25)
    simpa using this
  have b3 : MapIs (((((w.alloc (.cells A 159)).alloc (.cells (symz n) 176)).alloc (.cells (madeCells #[.int .u32 0] n) 25)).alloc (.map #[] 0)).alloc (.cells Q 168)) (w.heap.size + 3) RefKey 0 (fun _ => none) := by
    have := (MapIs.made (((w.alloc (.cells A 159)).alloc (.cells (symz n) 176)).alloc (.cells (madeCells #[.int .u32 0] n) 25)) RefKey).alloc (.cells Q 168)
    simpa using this
  have b4 : (((((w.alloc (.cells A 159)).alloc (.cells (symz n) 176)).alloc (.cells (madeCells #[.int .u32 0] n) 25)).alloc (.map #[] 0)).alloc (.cells Q 168)).heap[w.heap.size + 4]? = some (.cells Q 168 (0, 0)) := by
    have := heap_alloc_new ((((w.alloc (.cells A 159)).alloc (.cells (symz n) 176)).alloc (.cells (madeCells #[.int .u32 0] n) 25)).alloc (.map #[] 0)) (.cells Q 168)
    simpa using this
  exact ⟨(cell_of_row _ _ _ _ _ _ b0).trans h1, (cell_of_row _ _ _ _ _ _ b0).trans h2, (cell_of_row _ _ _ _ _ _ b0).trans h3, (cell_of_row _ _ _ _ _ _ b0).trans h4, (cell_of_row _ _ _ _ _ _ b0).trans h5,
    colz b1 (fun i j h => by omega) (fun i hi => symz_get n i hi), colz b2 (fun i j h => h) (fun i hi => madez_get n i hi), fun _ => ⟨(cell_of_row _ _ _ _ _ _ b4).trans hQ, mapE_new b3⟩, by simp [wid]⟩
theorem pc_106 : pc[106]? = some (.slice none 0 0) := by kernel_rfl
theorem pc_108 : pc[108]? = some (.slice none 0 0) := by kernel_rfl
theorem pc_350 : pc[350]? = some (.bool false) := by kernel_rfl
theorem pc_32 : pc[32]? = some (.bool false) := by kernel_rfl
theorem pc_105 : pc[105]? = some (.pointer none) := by kernel_rfl
def NewU (w : World) (n : Nat) (dead ts pt : Bool) (e : Ending) (w' : World) : Prop := e = .returned (.pointer (some ⟨w.heap.size, 0, none⟩)) ∧ St w' w.heap.size n dead ts pt (fun _ => 0) (fun _ => 0) (fun _ => 0) ∧ Below w.heap.size w w'
theorem sset {A : Array Value} {i j : Nat} {v u : Value} (h : A[i]? = some v) (hij : i ≠ j) : (A.setIfInBounds j u)[i]? = some v := (Array.getElem?_setIfInBounds_ne (fun e => hij e.symm)).trans h
theorem sself {A : Array Value} {i : Nat} {v u : Value} (h : A[i]? = some v) : (A.setIfInBounds i u)[i]? = some u := Array.getElem?_setIfInBounds_self_of_lt (Array.getElem?_eq_some_iff.1 h).1
set_option maxRecDepth 100000 in
set_option maxHeartbeats 4000000 in
theorem newU (w : World) (n : Nat) (hn : n ≤ 4096) (dead ts pt : Bool) : Calls Try.prog 5 #[.int .i64 n, .bool dead, .bool ts, .bool pt] w (NewU w n dead ts pt) := by
  have h99 := made99 n hn
  have h24 := made24 n hn
  have hmm := @run_makeMap Try.prog
  have p1 := pc_106
  have p2 := pc_108
  have p3 := pc_350
  have p4 := pc_32
  have p5 := pc_105
  cases pt
  · go_enter Try.func5, Try.ntmps5
    go_wp2_with fail
    refine pc_wp rfl ?_
    go_simp
    go_wp2_with fail
    go_ret
    refine ⟨rfl, st_new0 w _ n dead ts ?_ ?_ ?_ ?_ ?_, (((Below.refl _ _).alloc (Nat.le_refl _) _).alloc (by simp) _).alloc (by simp; omega) _⟩
    · exact sset (sself (sset (sset pc_350 (by omega)) (by omega))) (by omega)
    · exact sself (sset (sset (sset pc_32 (by omega)) (by omega)) (by omega))
    · exact sset (sset (sset (sset pc_105 (by omega)) (by omega)) (by omega)) (by omega)
    · exact sset (sset (sset (sself pc_106) (by omega)) (by omega)) (by omega)
    · exact sset (sset (sself (sset pc_108 (by omega))) (by omega)) (by omega)
  · go_enter Try.func5, Try.ntmps5
    go_wp2_with fail
    refine pc_wp rfl ?_
    go_simp
    go_wp2_with fail
    go_ret
    refine ⟨rfl, st_new1 w _ _ n dead ts ?_ ?_ ?_ ?_ ?_ rfl, (((((Below.refl _ _).alloc (Nat.le_refl _) _).alloc (by simp) _).alloc (by simp; omega) _).alloc (by simp; omega) _).alloc (by simp; omega) _⟩
    · exact sset (sset (sself (sset (sset pc_350 (by omega)) (by omega))) (by omega)) (by omega)
    · exact sset (sself (sset (sset (sset pc_32 (by omega)) (by omega)) (by omega))) (by omega)
    · exact sself (sset (sset (sset (sset pc_105 (by omega)) (by omega)) (by omega)) (by omega))
    · exact sset (sset (sset (sset (sself pc_106) (by omega)) (by omega)) (by omega)) (by omega)
    · exact sset (sset (sset (sself (sset pc_108 (by omega))) (by omega)) (by omega)) (by omega)
end Go.Proofs.Ytcpibdgihomleaa.us
