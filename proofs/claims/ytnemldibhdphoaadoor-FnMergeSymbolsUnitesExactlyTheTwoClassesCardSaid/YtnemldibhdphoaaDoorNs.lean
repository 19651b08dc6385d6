/-
  Symbols: newSymbol.
-/
import Derived.Test.YtnemldibhdphoaaDoorRw
namespace Go.Proofs.YtnemldibhdphoaaDoor.lk
open Go.ChangeShapes Go.WideShapes Go.ChangeAt Go.RowKit Go.Deep
set_option linter.unusedVariables false
set_option linter.unusedSimpArgs false
/-- The parser's cells. -/
structure Pm (w : World) (g : Nat) (src : Int) (dead : Bool) (sv : Value) (m : Option Nat) : Prop where
  c350 : w.cell? ⟨g, 350, none⟩ = some (.bool dead)
  c32 : w.cell? ⟨g, 32, none⟩ = some (.bool false)
  c66 : w.cell? ⟨g, 66, none⟩ = some (.int .u32 src)
  c103 : w.cell? ⟨g, 103, none⟩ = some (.slice none 0 0)
  c106 : w.cell? ⟨g, 106, none⟩ = some sv
  c114 : w.cell? ⟨g, 114, none⟩ = some (.map m)
  f106 : w.frozen? ⟨g, 106, none⟩ = false
  f114 : w.frozen? ⟨g, 114, none⟩ = false
section
variable {w w' : World} {g : Nat} {src : Int} {dead : Bool} {sv : Value} {m : Option Nat}
theorem Pm.lt (h : Pm w g src dead sv m) : g < w.heap.size := block_lt_of_cell h.c350
theorem Pm.of_block (h : Pm w g src dead sv m) (e : w'.heap[g]? = w.heap[g]?) : Pm w' g src dead sv m := by
  have c : ∀ j, w'.cell? ⟨g, j, none⟩ = w.cell? ⟨g, j, none⟩ := fun j => World.cell?_of_block (a := ⟨g, j, none⟩) e
  have f : ∀ j, w'.frozen? ⟨g, j, none⟩ = w.frozen? ⟨g, j, none⟩ := fun j => World.frozen?_of_block (a := ⟨g, j, none⟩) e
  exact ⟨(c _).trans h.c350, (c _).trans h.c32, (c _).trans h.c66, (c _).trans h.c103, (c _).trans h.c106, (c _).trans h.c114, (f _).trans h.f106, (f _).trans h.f114⟩
theorem Pm.set106 (h : Pm w g src dead sv m) (v : Value) : Pm (w.setCell ⟨g, 106, none⟩ v) g src dead v m := by
  have c : ∀ j, 106 ≠ j → (w.setCell ⟨g, 106, none⟩ v).cell? ⟨g, j, none⟩ = w.cell? ⟨g, j, none⟩ := fun j hj => World.cell?_setCell_other _ _ _ _ (fun e => hj (by simpa using congrArg Addr.off e))
  have f : ∀ j, (w.setCell ⟨g, 106, none⟩ v).frozen? ⟨g, j, none⟩ = w.frozen? ⟨g, j, none⟩ := fun j => World.frozen?_setCell _ _ _ _
  exact ⟨(c _ (by omega)).trans h.c350, (c _ (by omega)).trans h.c32, (c _ (by omega)).trans h.c66, (c _ (by omega)).trans h.c103, World.cell?_setCell_same _ _ _ h.c106, (c _ (by omega)).trans h.c114, (f _).trans h.f106, (f _).trans h.f114⟩
theorem Pm.set114 (h : Pm w g src dead sv m) (m' : Option Nat) : Pm (w.setCell ⟨g, 114, none⟩ (.map m')) g src dead sv m' := by
  have c : ∀ j, 114 ≠ j → (w.setCell ⟨g, 114, none⟩ (.map m')).cell? ⟨g, j, none⟩ = w.cell? ⟨g, j, none⟩ := fun j hj => World.cell?_setCell_other _ _ _ _ (fun e => hj (by simpa using congrArg Addr.off e))
  have f : ∀ j, (w.setCell ⟨g, 114, none⟩ (.map m')).frozen? ⟨g, j, none⟩ = w.frozen? ⟨g, j, none⟩ := fun j => World.frozen?_setCell _ _ _ _
  exact ⟨(c _ (by omega)).trans h.c350, (c _ (by omega)).trans h.c32, (c _ (by omega)).trans h.c66, (c _ (by omega)).trans h.c103, (c _ (by omega)).trans h.c106, World.cell?_setCell_same _ _ _ h.c114, (f _).trans h.f106, (f _).trans h.f114⟩
end
/-- The variable InvalidRef. -/
def Inv (w : World) (ia ib : Int) : Prop := w.cell? ⟨0, 0, none⟩ = some (.int .u32 ia) ∧ w.cell? ⟨0, 1, none⟩ = some (.int .u32 ib)
theorem Inv.lt {w : World} {ia ib : Int} (h : Inv w ia ib) : 0 < w.heap.size := block_lt_of_cell h.1
theorem Inv.touch {w w' : World} {ia ib : Int} (h : Inv w ia ib) {F : Nat → Prop} (ht : Touch F w w') (hF : ¬ F 0) : Inv w' ia ib :=
  ⟨(World.cell?_of_block (a := ⟨0, 0, none⟩) (ht.block 0 h.lt hF)).trans h.1, (World.cell?_of_block (a := ⟨0, 1, none⟩) (ht.block 0 h.lt hF)).trans h.2⟩
def symC (s : ByteArray) (u : Nat) (ia ib : Int) : List Value := [.pointer none, .string s, .int .u32 ia, .int .u32 ib, .int .u32 u, .int .u32 0, .int .u32 0, .int .u16 0, .int .u8 0, .int .u8 0]
theorem info173 : (Tryd.prog.info? 173).map (fun i => (i.zero.map (·.cells), i.size, i.bytes)) = some (some #[.pointer none, .string ByteArray.empty, .int .u32 0, .int .u32 0, .int .u32 0, .int .u32 0, .int .u32 0, .int .u16 0, .int .u8 0, .int .u8 0], 10, 48) := by kernel_rfl
theorem parts_of {T : TypeId} {cs : Array Value} {n b : Nat} (h : (Tryd.prog.info? T).map (fun i => (i.zero.map (·.cells), i.size, i.bytes)) = some (some cs, n, b)) :
    ∃ i z, Tryd.prog.info? T = some i ∧ i.zero = some z ∧ z.cells = cs ∧ i.size = n ∧ i.bytes = b := by
  obtain ⟨i, hi, hz⟩ := Option.map_eq_some_iff.1 h
  simp only [Prod.mk.injEq] at hz
  obtain ⟨h1, h2, h3⟩ := hz
  obtain ⟨z, hz, hzc⟩ := Option.map_eq_some_iff.1 h1
  exact ⟨i, z, hi, hz, hzc, h2, h3⟩
/-- What newSymbol leaves. -/
def NewS (w : World) (D g n : Nat) (src : Int) (dead : Bool) (sv : Value) (m : Option Nat) (s : ByteArray) (ia ib : Int) (xs : List Value) (e : Ending) (w' : World) : Prop :=
  e = .returned (.agg #[.int .u32 src, .int .u32 n]) ∧ ∃ k cap, Pm w' g src dead (.slice (some ⟨k, 0, none⟩) (n + 1) cap) m ∧ w'.ownsRow D 173 10 (.slice (some ⟨k, 0, none⟩) (n + 1) cap) (n + 1) (xs ++ symC s 0 ia ib) ∧
    (sv.ownBlock = some k ∨ w.heap.size ≤ k) ∧ k ≠ g ∧ Touch (fun j => j = g ∨ sv.ownBlock = some j) w w'
theorem newS_close {w w1 w2 : World} {D g n k cap : Nat} {src : Int} {dead : Bool} {sv : Value} {m : Option Nat} {s : ByteArray} {ia ib : Int} {xs : List Value} {o : Obj}
    (hT : Touch (fun j => j = g ∨ sv.ownBlock = some j) w w1) (hO2 : w2.ownsRow D 173 10 (.slice (some ⟨k, 0, none⟩) (n + 1) cap) (n + 1) (xs ++ symC s 0 ia ib))
    (hG : ((w1.alloc o).drew).grownBy w2 sv.ownBlock) (hA : sv.ownBlock = some k ∨ k = ((w1.alloc o).drew).heap.size)
    (hJ : Pm w2 g src dead sv m) (hg : g < w1.heap.size) (hN : sv.ownBlock ≠ some g) :
    NewS w D g n src dead sv m s ia ib xs (.returned (.agg #[.int .u32 src, .int .u32 n])) (w2.setCell ⟨g, 106, none⟩ (.slice (some ⟨k, 0, none⟩) (n + 1) cap)) := by
  have hkg : k ≠ g := by
    rcases hA with h | h
    · intro e; exact hN (by rw [h, e])
    · have : k = w1.heap.size + 1 := by rw [h]; simp [heap_drew]
      omega
  have hk : (Value.slice (some ⟨k, 0, none⟩) (n + 1) cap).ownBlock ≠ some g := by simp [Value.ownBlock, hkg]
  refine ⟨rfl, k, cap, hJ.set106 _, ownsRow_setCell_other hO2 (a := ⟨g, 106, none⟩) hk _, ?_, hkg, ?_⟩
  · rcases hA with h | h
    · exact .inl h
    · right; have := hT.size; rw [h]; simp [heap_drew]; omega
  · exact ((hT.alloc _).drew.grown hG (fun k h _ => .inr h)).setCell _ (fun _ => .inl rfl) _
theorem newS_fin {w w1 w2 : World} {D g n k cap R : Nat} {src : Int} {dead : Bool} {sv : Value} {m : Option Nat} {s : ByteArray} {ia ib : Int} {xs : List Value} {o : Obj}
    (hT : Touch (fun j => j = g ∨ sv.ownBlock = some j) w w1) (hO2 : w2.ownsRow D 173 10 (.slice (some ⟨k, 0, none⟩) (n + 1) cap) (n + 1) (xs ++ symC s 0 ia ib))
    (hG : ((w1.alloc o).drew).grownBy w2 sv.ownBlock) (hA : sv.ownBlock = some k ∨ k = ((w1.alloc o).drew).heap.size)
    (hJ : Pm w2 g src dead sv m) (hg : g < w1.heap.size) (hN : sv.ownBlock ≠ some g) (hR : R = w.heap.size) (hgR : g ≠ R) (hS : w1.heap.size = w.heap.size + 2) (hlt : ∀ k, sv.ownBlock = some k → k < w.heap.size) (v0 v1 : Value) :
    NewS w D g n src dead sv m s ia ib xs (.returned (.agg #[.int .u32 src, .int .u32 n])) (((w2.setCell ⟨g, 106, none⟩ (.slice (some ⟨k, 0, none⟩) (n + 1) cap)).setCell ⟨R, 0, none⟩ v0).setCell ⟨R, 1, none⟩ v1) := by
  have hkR : k ≠ R := by
    rcases hA with h | h
    · have := hlt k h; omega
    · have : k = w1.heap.size + 1 := by rw [h]; simp [heap_drew]
      omega
  obtain ⟨h1, k', cap', h2, h3, h4, h5, h6⟩ := newS_close hT hO2 hG hA hJ hg hN
  have e := (hJ.set106 (.slice (some ⟨k, 0, none⟩) (n + 1) cap)).c106.symm.trans h2.c106
  simp only [Option.some.injEq, Value.slice.injEq, Addr.mk.injEq, true_and, and_true] at e
  obtain ⟨rfl, rfl⟩ := e
  have hk2 : (Value.slice (some ⟨k, 0, none⟩) (n + 1) cap).ownBlock ≠ some R := by simp [Value.ownBlock, hkR]
  exact ⟨h1, k, cap, (h2.of_block (Below.heap_setCell _ _ _ _ hgR)).of_block (Below.heap_setCell _ _ _ _ hgR), ownsRow_setCell_other (ownsRow_setCell_other h3 (a := ⟨R, 0, none⟩) hk2 _) (a := ⟨R, 1, none⟩) hk2 _, h4, h5, (h6.setCell _ (fun hlt => by simp at hlt; omega) _).setCell _ (fun hlt => by simp at hlt; omega) _⟩

set_option maxRecDepth 100000 in
set_option maxHeartbeats 4000000 in
theorem new13 (w : World) (D g n : Nat) (src : Int) (dead : Bool) (a : Option Addr) (c : Nat) (m : Option Nat) (s : ByteArray) (ia ib : Int) (xs : List Value) (hP : Pm w g src dead (.slice a n c) m) (hI : Inv w ia ib) (hown : w.ownsRow D 173 10 (.slice a n c) n xs)
    (hne : (Value.slice a n c).ownBlock ≠ some g) (hD : D ≤ w.heap.size) (hn : n ≤ 1048576) :
    Calls Tryd.prog 13 #[.pointer (some ⟨g, 0, none⟩), .int .u8 0, .string s] w (NewS w D g n src dead (.slice a n c) m s ia ib xs) := by
  have HP := Lib.hid hP
  have HI := Lib.hid hI
  have HO := Lib.hid hown
  have HN := Lib.hid hne
  have HD := Lib.hid hD
  obtain ⟨i0, z0, e1, e2, e3, e4, e5⟩ := parts_of info173
  have E1 := Lib.hid e1
  have E2 := Lib.hid e2
  have E3 := Lib.hid e3
  have E4 := Lib.hid e4
  have E5 := Lib.hid e5
  have c1 := hP.c66
  have c2 := hP.c106
  have hg := hP.lt
  clear e1 e2 e3 e4 e5 hown hne hD hP hI
  go_enter Tryd.func13, Tryd.ntmps13
  go_wp2
  go_region
  all_goals
    go_wp2
    have hT1 : Touch (fun j => j = g ∨ (Value.slice a n c).ownBlock = some j) w (((w.alloc (.cells #[.int .u32 0, .int .u32 0] 161)).alloc (.cells #[.int .u32 src, .int .u32 n] 161)).drew) := (((Touch.refl _ w).alloc _).alloc _).drew
    have b1 : (((w.alloc (.cells #[.int .u32 0, .int .u32 0] 161)).alloc (.cells #[.int .u32 src, .int .u32 n] 161)).drew).heap[w.heap.size]? = some (.cells #[.int .u32 0, .int .u32 0] 161 (0, 0)) := by
      rw [heap_drew, Below.heap_alloc _ _ _ (by simp)]; exact heap_alloc_new w _
    have b2 : (((w.alloc (.cells #[.int .u32 0, .int .u32 0] 161)).alloc (.cells #[.int .u32 src, .int .u32 n] 161)).drew).heap[w.heap.size + 1]? = some (.cells #[.int .u32 src, .int .u32 n] 161 (0, 0)) := by
      have := heap_alloc_new (w.alloc (.cells #[.int .u32 0, .int .u32 0] 161)) (.cells #[.int .u32 src, .int .u32 n] 161)
      rw [heap_drew]; simpa using this
    have hs1 : (((w.alloc (.cells #[.int .u32 0, .int .u32 0] 161)).alloc (.cells #[.int .u32 src, .int .u32 n] 161)).drew).heap.size = w.heap.size + 2 := by simp [heap_drew]
    have HB0 : Hid (∀ k, k < w.heap.size → (((w.alloc (.cells #[.int .u32 0, .int .u32 0] 161)).alloc (.cells #[.int .u32 src, .int .u32 n] 161)).drew).heap[k]? = w.heap[k]?) := Lib.hid (fun k hk => by rw [heap_drew, Below.heap_alloc _ _ _ (by simp; omega), Below.heap_alloc _ _ _ hk])
    have HT1 := Lib.hid hT1
    have B1 := Lib.hid b1
    have B2 := Lib.hid b2
    have HS1 := Lib.hid hs1
    clear hT1 b1 b2 hs1 c1 c2
    generalize (((w.alloc (.cells #[.int .u32 0, .int .u32 0] 161)).alloc (.cells #[.int .u32 src, .int .u32 n] 161)).drew) = w1 at *
    have hlt0 : ∀ k, (Value.slice a n c).ownBlock = some k → k < w.heap.size := fun k e => (HO.out.lt k e).2
    have HLT := Lib.hid hlt0
    have HP1 : Hid (Pm w1 g src dead (.slice a n c) m) := Lib.hid (HP.out.of_block (HB0.out g hg))
    have HO1 : Hid (w1.ownsRow D 173 10 (.slice a n c) n xs) := Lib.hid (by
      obtain ⟨h1, h2⟩ := HO.out
      refine ⟨h1, ?_⟩
      rcases h2 with h2 | ⟨q, cap, cur, e, hb, hh, r⟩
      · exact .inl h2
      · exact .inr ⟨q, cap, cur, e, hb, (HB0.out q (lt_of_block hh)).trans hh, r⟩)
    have HI1 : Hid (Inv w1 ia ib) := Lib.hid ⟨(World.cell?_of_block (a := ⟨0, 0, none⟩) (HB0.out 0 HI.out.lt)).trans HI.out.1, (World.cell?_of_block (a := ⟨0, 1, none⟩) (HB0.out 0 HI.out.lt)).trans HI.out.2⟩
    obtain ⟨v1, v2⟩ := HI1.out
    have c2 := HP1.out.c106
    have f2 := HP1.out.f106
    have hz0 : 0 < w1.heap.size := HI1.out.lt
    have hg1 : g < w1.heap.size := HP1.out.lt
    have HOne : Hid (∀ u ∈ symC s 0 ia ib, u.oneCell' = true) := Lib.hid (by simp [symC, Value.oneCell'])
    have HD1 : Hid (D ≤ w1.heap.size) := Lib.hid (by have := HS1.out; have := HD.out; omega)
    clear hlt0
    go_region_law (refine step_append_lies _ rfl (.tmp 24) (.tmp 29) 104 rfl D 173 i0 z0 10 48 Tryd.underlying104 E1.out E2.out E4.out E5.out (by rw [E3.out]; rfl) (by decide) _ n xs rfl (HO1.out.alloc _) ⟨w1.heap.size, 0, none⟩ 1 1 (symC s 0 ia ib) rfl rfl (World.news_of_block (heap_alloc_new w1 _)) HOne.out (by decide) (by unfold maxLen; omega) (by omega) (by have := HD1.out; simp; omega) _ rfl ?_; intro k cap w2 hown hgrow hat hlt; have HO2 := Lib.hid hown; have HG2 := Lib.hid hgrow; have HA2 := Lib.hid hat; have HL2 := Lib.hid hlt; clear hown hgrow hat hlt; have HBk : Hid (∀ q, q < w1.heap.size → (Value.slice a n c).ownBlock ≠ some q → w2.heap[q]? = w1.heap[q]?) := Lib.hid (fun q hq hne => (HG2.out.block q (by simp; omega) (fun e => hne e.symm)).trans (Below.heap_alloc _ _ _ hq)); have HP2 : Hid (Pm w2 g src dead (.slice a n c) m) := Lib.hid (HP1.out.of_block (HBk.out g HP1.out.lt HN.out)); have d1 := HP2.out.c106; have q1 := HP2.out.f106)
    all_goals
      have hR1 : (Value.slice a n c).ownBlock ≠ some w.heap.size := fun e => by have := HLT.out _ e; omega
      have hR2 : (Value.slice a n c).ownBlock ≠ some (w.heap.size + 1) := fun e => by have := HLT.out _ e; omega
      have b1 := (HBk.out w.heap.size (by have := HS1.out; omega) hR1).trans B1.out
      have b2 := (HBk.out (w.heap.size + 1) (by have := HS1.out; omega) hR2).trans B2.out
      have d2 := HP2.out.c32
      have x0 := cell_of_row w2 _ 0 _ _ _ b1
      have x1 := cell_of_row w2 _ 1 _ _ _ b1
      have y0 := cell_of_row w2 _ 0 _ _ _ b2
      have y1 := cell_of_row w2 _ 1 _ _ _ b2
      have z0 := frozen_of_row w2 _ 0 _ _ b1
      have z1 := frozen_of_row w2 _ 1 _ _ b1
      simp only [List.getElem?_toArray, List.getElem?_cons_zero, List.getElem?_cons_succ] at x0 x1 y0 y1
      have hgR : g ≠ w.heap.size := by omega
      have hgR2 : g ≠ w.heap.size + 1 := by omega
      clear hR1 hR2 b1 b2
      go_wp2
      refine bodyPost_ret (v := .agg #[.int .u32 src, .int .u32 n]) ?_ rfl (newS_fin HT1.out HO2.out HG2.out HA2.out HP2.out HP1.out.lt HN.out rfl hgR HS1.out HLT.out _ _)
      simp [results, Tryd.results13, go_sem, x0, x1, y0, y1]
end Go.Proofs.YtnemldibhdphoaaDoor.lk
