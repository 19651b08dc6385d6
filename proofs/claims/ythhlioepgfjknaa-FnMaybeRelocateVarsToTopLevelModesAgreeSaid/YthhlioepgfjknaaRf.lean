/-
  Relocated declarations: a new parser.
-/
import Derived.Test.YthhlioepgfjknaaRe
namespace Go.Proofs.Ythhlioepgfjknaa.rl
open Go.ChangeShapes Go.WideShapes Go.ChangeAt Go.RowKit Go.Deep Go.Proofs.Ythhlioepgfjknaa.ch
set_option linter.unusedVariables false
set_option linter.unusedSimpArgs false
set_option maxRecDepth 100000
set_option maxHeartbeats 4000000
/-- The cells of a literal of type 196: the named fields as given, all else zero. -/
noncomputable def rp (cur : Nat) (mod : Nat) (depth : Int) (s n : Nat) : Array Value := (Try.prog.built 196 [(7, .pointer (some ⟨cur, 0, none⟩)), (58, .pointer (some ⟨mod, 0, none⟩)), (97, .int .i64 depth), (9, .slice (some ⟨s, 0, none⟩) n n)]).getD #[]
theorem rp_built (cur : Nat) (mod : Nat) (depth : Int) (s n : Nat) : Try.prog.built 196 [(7, .pointer (some ⟨cur, 0, none⟩)), (58, .pointer (some ⟨mod, 0, none⟩)), (97, .int .i64 depth), (9, .slice (some ⟨s, 0, none⟩) n n)] = some (rp cur mod depth s n) := by kernel_rfl
theorem rp_wp {o : Oper} {a : Act} {w : World} {K : Act → World → Prop} {Q : Exit → Act → World → Prop} (x0 : Operand) (x1 : Operand) (x2 : Operand) (x3 : Operand) (ho : o.op = .build 196 #[(7, x0), (58, x1), (97, x2), (9, x3)]) (cur : Nat) (mod : Nat) (depth : Int) (s n : Nat) (h0 : a.eval x0 = .pointer (some ⟨cur, 0, none⟩)) (h1 : a.eval x1 = .pointer (some ⟨mod, 0, none⟩)) (h2 : a.eval x2 = .int .i64 depth) (h3 : a.eval x3 = .slice (some ⟨s, 0, none⟩) n n)
    (h : K (a.put o.dst (.agg (rp cur mod depth s n))) w) : o.wp Try.prog a w K Q := by
  refine wp_build 196 _ ho ?_ ?_
  · simp only [List.map_toArray, List.map_cons, List.map_nil, rp_built, h0, h1, h2, h3]; rfl
  · simp only [List.map_toArray, List.map_cons, List.map_nil, rp_built, h0, h1, h2, h3, Option.getD_some]; exact h

theorem rp_32 (cur : Nat) (mod : Nat) (depth : Int) (s n : Nat) : (rp cur mod depth s n)[32]? = some (.bool false) := by kernel_rfl
theorem rp_34 (cur : Nat) (mod : Nat) (depth : Int) (s n : Nat) : (rp cur mod depth s n)[34]? = some (.int .u8 0) := by kernel_rfl
theorem rp_104 (cur : Nat) (mod : Nat) (depth : Int) (s n : Nat) : (rp cur mod depth s n)[104]? = some (.pointer (some ⟨cur, 0, none⟩)) := by kernel_rfl
theorem rp_105 (cur : Nat) (mod : Nat) (depth : Int) (s n : Nat) : (rp cur mod depth s n)[105]? = some (.pointer none) := by kernel_rfl
theorem rp_106 (cur : Nat) (mod : Nat) (depth : Int) (s n : Nat) : (rp cur mod depth s n)[106]? = some (.slice (some ⟨s, 0, none⟩) n n) := by kernel_rfl
theorem rp_187 (cur : Nat) (mod : Nat) (depth : Int) (s n : Nat) : (rp cur mod depth s n)[187]? = some (.pointer (some ⟨mod, 0, none⟩)) := by kernel_rfl
theorem rp_196 (cur : Nat) (mod : Nat) (depth : Int) (s n : Nat) : (rp cur mod depth s n)[196]? = some (.slice none 0 0) := by kernel_rfl
theorem rp_339 (cur : Nat) (mod : Nat) (depth : Int) (s n : Nat) : (rp cur mod depth s n)[339]? = some (.int .i64 depth) := by kernel_rfl
theorem rp_350 (cur : Nat) (mod : Nat) (depth : Int) (s n : Nat) : (rp cur mod depth s n)[350]? = some (.bool false) := by kernel_rfl
theorem rp_size (cur : Nat) (mod : Nat) (depth : Int) (s n : Nat) : (rp cur mod depth s n).size = 353 := by kernel_rfl
theorem info279 : (Try.prog.info? 279).map (fun i => (i.zero.map (·.cells), i.size, i.bytes)) = some (some #[.pointer none, .string ByteArray.empty, .int .u32 0, .int .u32 0, .int .u32 0, .int .u32 0, .int .u32 0, .int .u16 0, .int .u8 0, .int .u8 0], 10, 48) := by kernel_rfl
def symz (n : Nat) : Array Value := madeCells #[.pointer none, .string ByteArray.empty, .int .u32 0, .int .u32 0, .int .u32 0, .int .u32 0, .int .u32 0, .int .u16 0, .int .u8 0, .int .u8 0] (n * 10)
theorem symz_get (n i : Nat) (hi : i < n) : (symz n)[i * 10 + 4]? = some (.int .u32 0) := by
  have h : i * 10 + 4 < n * 10 := by omega
  simp [symz, madeCells, h, Nat.add_mod, Nat.mul_mod_left]
theorem symz_size (n : Nat) : (symz n).size = n * 10 := by simp [symz, size_madeCells]
theorem made145 (n : Nat) (hn : n ≤ 65536) (w : World) : (Instr.makeSlice 145 (.int .i64 n) (.int .i64 n)).run Try.prog w = .ok (.slice (some ⟨w.heap.size, 0, none⟩) n n) (w.alloc (.cells (symz n) 279)) := by
  obtain ⟨i, hi, hz⟩ := Option.map_eq_some_iff.1 info279
  simp only [Prod.mk.injEq] at hz
  obtain ⟨h1, h2, h3⟩ := hz
  obtain ⟨z, hz, hzc⟩ := Option.map_eq_some_iff.1 h1
  have hr := run_make (P := Try.prog) w 145 279 i z Try.underlying145 hi hz .i64 .i64 n n (by omega) (Int.le_refl _) (by rw [h3]; omega) (by omega)
  simp only [Int.toNat_natCast, hzc, h2] at hr
  exact hr
theorem gd {A : Array Value} {q : Nat} (h : q < A.size) : A[q]? = some ((A[q]?).getD undef) := by rw [Array.getElem?_eq_getElem h]; rfl
theorem sset {A : Array Value} {i j : Nat} {v u : Value} (h : A[i]? = some v) (hij : i ≠ j) : (A.setIfInBounds j u)[i]? = some v := (Array.getElem?_setIfInBounds_ne (fun e => hij e.symm)).trans h
def NewP (w : World) (mode : Int) (cur mod : Nat) (depth : Int) (n : Nat) (e : Ending) (w' : World) : Prop :=
  ∃ p s, e = .returned (ptr p) ∧ w.heap.size ≤ p ∧ w.heap.size ≤ s ∧ St w' p s n mode cur mod depth (.slice none 0 0) ∧ Below w.heap.size w w'
/-- What the new parser is. -/
theorem new_st (w1 : World) (mode : Int) (cur mod : Nat) (depth : Int) (s n : Nat) (hs : w1.heap[s]? = some (.cells (symz n) 279 (0, 0))) :
    St (w1.alloc (.cells ((rp cur mod depth s n).setIfInBounds 34 (.int .u8 mode)) 196)) w1.heap.size s n mode cur mod depth (.slice none 0 0) := by
  have hlt : s < w1.heap.size := lt_of_block hs
  refine ⟨⟨fun q => (((rp cur mod depth s n).setIfInBounds 34 (.int .u8 mode))[q]?).getD undef, ⟨_, heap_alloc_new _ _, by simp [rp_size], fun q hq => ?_⟩, ?_⟩, ⟨fun q => ((symz n)[q]?).getD undef, ⟨_, (Below.heap_alloc _ _ _ hlt).trans hs, symz_size n, fun q hq => ?_⟩, fun i hi => ⟨0, ?_⟩⟩, by omega⟩
  · exact gd (by simp [rp_size]; omega)
  · have h34 : ((rp cur mod depth s n).setIfInBounds 34 (.int .u8 mode))[34]? = some (.int .u8 mode) := Array.getElem?_setIfInBounds_self_of_lt (by rw [rp_size]; omega)
    refine ⟨?_, ?_, ?_, ?_, ?_, ?_, ?_, ?_, ?_⟩
    · show Option.getD _ _ = _; rw [sset (rp_32 ..) (by omega)]; rfl
    · show Option.getD _ _ = _; rw [h34]; rfl
    · show Option.getD _ _ = _; rw [sset (rp_104 ..) (by omega)]; rfl
    · show Option.getD _ _ = _; rw [sset (rp_105 ..) (by omega)]; rfl
    · show Option.getD _ _ = _; rw [sset (rp_106 ..) (by omega)]; rfl
    · show Option.getD _ _ = _; rw [sset (rp_187 ..) (by omega)]; rfl
    · show Option.getD _ _ = _; rw [sset (rp_196 ..) (by omega)]; rfl
    · show Option.getD _ _ = _; rw [sset (rp_339 ..) (by omega)]; rfl
    · show Option.getD _ _ = _; rw [sset (rp_350 ..) (by omega)]; rfl
  · exact gd (by rw [symz_size]; omega)
  · show Option.getD _ _ = _; rw [symz_get n i hi]; rfl
theorem new36 (w : World) (mode : Int) (cur mod : Nat) (depth : Int) (n : Nat) (hn : n ≤ 65536) : Calls Try.prog 36 #[.int .u8 mode, ptr cur, ptr mod, .int .i64 depth, .int .i64 n] w (NewP w mode cur mod depth n) := by
  have hmk := made145 n hn
  go_enter Try.func36, Try.ntmps36
  go_wp2_with fail
  refine rp_wp _ _ _ _ rfl cur mod depth w.heap.size n rfl rfl rfl rfl ?_
  have p1 := rp_34 cur mod depth w.heap.size n
  clear hmk
  have hs := heap_alloc_new w (.cells (symz n) 279)
  have HB := Lib.hid ((Below.refl w.heap.size w).alloc (Nat.le_refl _) (.cells (symz n) 279))
  have HS := Lib.hid hs
  have hz : (w.alloc (.cells (symz n) 279)).heap.size = w.heap.size + 1 := by simp
  clear hs
  generalize w.alloc (.cells (symz n) 279) = w1 at *
  go_simp
  go_wp2_with fail
  go_ret
  refine ⟨w.heap.size + 1, w.heap.size, rfl, by omega, Nat.le_refl _, ?_, HB.out.alloc (by omega) _⟩
  have h := new_st w1 mode cur mod depth w.heap.size n HS.out
  rw [hz] at h
  exact h
end Go.Proofs.Ythhlioepgfjknaa.rl
