/-
  extractSuperProperty: the makers and the readers walked.
-/
import Derived.Test.YtjhmdagdmclknaaUc
namespace Go.Proofs.Ytjhmdagdmclknaa.ut
open Go.ChangeShapes Go.WideShapes Go.ChangeAt Go.RowKit Go.Deep Go.Proofs.Ytjhmdagdmclknaa.u8
set_option linter.unusedVariables false
set_option linter.unusedSimpArgs false
/-- The cells of a literal of type 169: the named fields as given, all else zero. -/
noncomputable def pc  : Array Value := (Try.prog.built 169 []).getD #[]
theorem pc_built  : Try.prog.built 169 [] = some (pc ) := by kernel_rfl
theorem pc_wp {o : Oper} {a : Act} {w : World} {K : Act → World → Prop} {Q : Exit → Act → World → Prop} (ho : o.op = .build 169 #[]) 
    (h : K (a.put o.dst (.agg (pc ))) w) : o.wp Try.prog a w K Q := by
  refine wp_build 169 _ ho ?_ ?_
  · simp only [List.map_toArray, List.map_nil, pc_built]; rfl
  · simp only [List.map_toArray, List.map_nil, pc_built, Option.getD_some]; exact h

theorem pc_338  : (pc )[338]? = some (.bool false) := by kernel_rfl
@[go_sem] theorem as27_170_yes (v : Value) (w : World) : (Instr.typeAssert (.iface 170 v) 27 170 true).run Try.prog w = .ok (.tuple #[v, .bool true]) w := by kernel_rfl
@[go_sem] theorem as27_170_nil (w : World) : (Instr.typeAssert .nilIface 27 170 true).run Try.prog w = .ok (.tuple #[.pointer none, .bool false]) w := by kernel_rfl
theorem as27_170_zero (w : World) : (do pure (Value.tuple #[← zeroValue 170, .bool false]) : Sem Value).run Try.prog w = .ok (.tuple #[.pointer none, .bool false]) w := by kernel_rfl
@[go_sem] theorem as27_170_no (u : TypeId) (v : Value) (w : World) (h : u ≠ 170) : (Instr.typeAssert (.iface u v) 27 170 true).run Try.prog w = .ok (.tuple #[.pointer none, .bool false]) w := by
  have e : (Instr.typeAssert (.iface u v) 27 170 true).run Try.prog w = (if u = 170 then (pure (Value.tuple #[v, .bool true]) : Sem Value) else (do pure (Value.tuple #[← zeroValue 170, .bool false]))).run Try.prog w := by kernel_rfl
  rw [e, if_neg h]
  exact as27_170_zero w
@[go_sem] theorem as27_174_yes (v : Value) (w : World) : (Instr.typeAssert (.iface 174 v) 27 174 true).run Try.prog w = .ok (.tuple #[v, .bool true]) w := by kernel_rfl
@[go_sem] theorem as27_174_nil (w : World) : (Instr.typeAssert .nilIface 27 174 true).run Try.prog w = .ok (.tuple #[.pointer none, .bool false]) w := by kernel_rfl
theorem as27_174_zero (w : World) : (do pure (Value.tuple #[← zeroValue 174, .bool false]) : Sem Value).run Try.prog w = .ok (.tuple #[.pointer none, .bool false]) w := by kernel_rfl
@[go_sem] theorem as27_174_no (u : TypeId) (v : Value) (w : World) (h : u ≠ 174) : (Instr.typeAssert (.iface u v) 27 174 true).run Try.prog w = .ok (.tuple #[.pointer none, .bool false]) w := by
  have e : (Instr.typeAssert (.iface u v) 27 174 true).run Try.prog w = (if u = 174 then (pure (Value.tuple #[v, .bool true]) : Sem Value) else (do pure (Value.tuple #[← zeroValue 174, .bool false]))).run Try.prog w := by kernel_rfl
  rw [e, if_neg h]
  exact as27_174_zero w
@[go_sem] theorem as27_178_yes (v : Value) (w : World) : (Instr.typeAssert (.iface 178 v) 27 178 true).run Try.prog w = .ok (.tuple #[v, .bool true]) w := by kernel_rfl
@[go_sem] theorem as27_178_nil (w : World) : (Instr.typeAssert .nilIface 27 178 true).run Try.prog w = .ok (.tuple #[.pointer none, .bool false]) w := by kernel_rfl
theorem as27_178_zero (w : World) : (do pure (Value.tuple #[← zeroValue 178, .bool false]) : Sem Value).run Try.prog w = .ok (.tuple #[.pointer none, .bool false]) w := by kernel_rfl
@[go_sem] theorem as27_178_no (u : TypeId) (v : Value) (w : World) (h : u ≠ 178) : (Instr.typeAssert (.iface u v) 27 178 true).run Try.prog w = .ok (.tuple #[.pointer none, .bool false]) w := by
  have e : (Instr.typeAssert (.iface u v) 27 178 true).run Try.prog w = (if u = 178 then (pure (Value.tuple #[v, .bool true]) : Sem Value) else (do pure (Value.tuple #[← zeroValue 178, .bool false]))).run Try.prog w := by kernel_rfl
  rw [e, if_neg h]
  exact as27_178_zero w
@[go_sem] theorem as27_187_yes (v : Value) (w : World) : (Instr.typeAssert (.iface 187 v) 27 187 true).run Try.prog w = .ok (.tuple #[v, .bool true]) w := by kernel_rfl
@[go_sem] theorem as27_187_nil (w : World) : (Instr.typeAssert .nilIface 27 187 true).run Try.prog w = .ok (.tuple #[.pointer none, .bool false]) w := by kernel_rfl
theorem as27_187_zero (w : World) : (do pure (Value.tuple #[← zeroValue 187, .bool false]) : Sem Value).run Try.prog w = .ok (.tuple #[.pointer none, .bool false]) w := by kernel_rfl
@[go_sem] theorem as27_187_no (u : TypeId) (v : Value) (w : World) (h : u ≠ 187) : (Instr.typeAssert (.iface u v) 27 187 true).run Try.prog w = .ok (.tuple #[.pointer none, .bool false]) w := by
  have e : (Instr.typeAssert (.iface u v) 27 187 true).run Try.prog w = (if u = 187 then (pure (Value.tuple #[v, .bool true]) : Sem Value) else (do pure (Value.tuple #[← zeroValue 187, .bool false]))).run Try.prog w := by kernel_rfl
  rw [e, if_neg h]
  exact as27_187_zero w

def NewP (w : World) (lo : Bool) (e : Ending) (w' : World) : Prop := ∃ PB, e = .returned (.pointer (some ⟨PB, 0, none⟩)) ∧ w'.cell? ⟨PB, 338, none⟩ = some (.bool lo) ∧ Below w.heap.size w w'
set_option maxRecDepth 100000 in
set_option maxHeartbeats 4000000 in
theorem new7 (w : World) (lo : Bool) : Calls Try.prog 7 #[.bool lo] w (NewP w lo) := by
  have p1 := pc_338
  go_enter Try.func7, Try.ntmps7
  go_wp2_with fail
  refine pc_wp rfl ?_
  go_simp
  go_wp2_with fail
  go_ret
  refine ⟨w.heap.size, rfl, ?_, (Below.refl _ _).alloc (Nat.le_refl _) _⟩
  rw [cell_of_row _ _ _ _ _ _ (heap_alloc_new w _)]
  obtain ⟨h, _⟩ := Array.getElem?_eq_some_iff.1 pc_338
  rw [Array.getElem?_setIfInBounds_self_of_lt h]
def ExP (T : Nat) (l : Int) (w : World) (e : Ending) (w' : World) : Prop := ∃ b, e = .returned (.agg #[.iface T (.pointer (some ⟨b, 0, none⟩)), .int .i32 l]) ∧ Below w.heap.size w w'
theorem super9 (w : World) (l : Int) : Calls Try.prog 9 #[.int .i32 l] w (ExP 174 l w) := by
  go_enter Try.func9, Try.ntmps9
  go_wp2_with fail
  refine bodyPost_ret (v := .agg #[.iface 174 (.pointer (some ⟨w.heap.size + 1, 0, none⟩)), .int .i32 l]) (by simp [results, Try.results9, go_sem]) rfl ⟨_, rfl, ?_⟩
  exact ((Below.refl _ _).alloc (Nat.le_refl _) _).alloc (by simp) _
theorem ref15 (w : World) : Calls Try.prog 15 #[.int .u32 3] w fun e w' => e = .returned (.agg #[.int .u32 0, .int .u32 3]) ∧ Below w.heap.size w w' := by
  go_enter Try.func15, Try.ntmps15
  go_wp2_with fail
  refine bodyPost_ret (v := .agg #[.int .u32 0, .int .u32 3]) (by simp [results, Try.results15, go_sem]) rfl ⟨rfl, ?_⟩
  exact (Below.refl _ _).alloc (Nat.le_refl _) _
theorem ident14 (w : World) (l a b : Int) : Calls Try.prog 14 #[.int .i32 l, .agg #[.int .u32 a, .int .u32 b]] w (ExP 184 l w) := by
  go_enter Try.func14, Try.ntmps14
  go_wp2_with fail
  refine bodyPost_ret (v := .agg #[.iface 184 (.pointer (some ⟨w.heap.size + 1 + 1, 0, none⟩)), .int .i32 l]) (by simp [results, Try.results14, go_sem]) rfl ⟨_, rfl, ?_⟩
  exact (((Below.refl _ _).alloc (Nat.le_refl _) _).alloc (by simp) _).alloc (by simp; omega) _
/-- A dot expression at block b. -/
structure Dot (w : World) (b T tb : Nat) (tl : Int) (name : ByteArray) (nl : Int) : Prop where
  c0 : w.cell? ⟨b, 0, none⟩ = some (.iface T (.pointer (some ⟨tb, 0, none⟩)))
  c1 : w.cell? ⟨b, 1, none⟩ = some (.int .i32 tl)
  c2 : w.cell? ⟨b, 2, none⟩ = some (.string name)
  c3 : w.cell? ⟨b, 3, none⟩ = some (.int .i32 nl)
theorem Dot.below {w w' : World} {b T tb : Nat} {tl nl : Int} {name : ByteArray} (h : Dot w b T tb tl name nl) (hb : Below w.heap.size w w') : Dot w' b T tb tl name nl := by
  obtain ⟨h0, h1, h2, h3⟩ := h
  have hl := block_lt_of_cell h0
  exact ⟨(hb.cell (p := ⟨b, 0, none⟩) hl).trans h0, (hb.cell (p := ⟨b, 1, none⟩) hl).trans h1, (hb.cell (p := ⟨b, 2, none⟩) hl).trans h2, (hb.cell (p := ⟨b, 3, none⟩) hl).trans h3⟩
def DotP (T tb : Nat) (tl l : Int) (name : ByteArray) (nl : Int) (w : World) (e : Ending) (w' : World) : Prop := ∃ b, e = .returned (.agg #[.iface 170 (.pointer (some ⟨b, 0, none⟩)), .int .i32 l]) ∧ Dot w' b T tb tl name nl ∧ w.heap.size ≤ b ∧ Below w.heap.size w w'
theorem dot8 (w : World) (T tb : Nat) (tl l : Int) (name : ByteArray) (nl : Int) : Calls Try.prog 8 #[.int .i32 l, .agg #[.iface T (.pointer (some ⟨tb, 0, none⟩)), .int .i32 tl], .string name, .int .i32 nl] w (DotP T tb tl l name nl w) := by
  go_enter Try.func8, Try.ntmps8
  go_wp2_with fail
  refine bodyPost_ret (v := .agg #[.iface 170 (.pointer (some ⟨w.heap.size + 1 + 1, 0, none⟩)), .int .i32 l]) (by simp [results, Try.results8, go_sem]) rfl ⟨_, rfl, ⟨?_, ?_, ?_, ?_⟩, by omega, ?_⟩
  · rw [World.cell?_alloc_at _ _ _ _ (by simp)]; rfl
  · rw [World.cell?_alloc_at _ _ _ _ (by simp)]; rfl
  · rw [World.cell?_alloc_at _ _ _ _ (by simp)]; rfl
  · rw [World.cell?_alloc_at _ _ _ _ (by simp)]; rfl
  · exact (((Below.refl _ _).alloc (Nat.le_refl _) _).alloc (by simp) _).alloc (by simp; omega) _
/-- An index expression at block b. -/
structure Idx (w : World) (b T tb : Nat) (tl : Int) (ib : Nat) (il : Int) : Prop where
  c0 : w.cell? ⟨b, 0, none⟩ = some (.iface T (.pointer (some ⟨tb, 0, none⟩)))
  c1 : w.cell? ⟨b, 1, none⟩ = some (.int .i32 tl)
  c2 : w.cell? ⟨b, 2, none⟩ = some (.iface 178 (.pointer (some ⟨ib, 0, none⟩)))
  c3 : w.cell? ⟨b, 3, none⟩ = some (.int .i32 il)
theorem Idx.below {w w' : World} {b T tb ib : Nat} {tl il : Int} (h : Idx w b T tb tl ib il) (hb : Below w.heap.size w w') : Idx w' b T tb tl ib il := by
  obtain ⟨h0, h1, h2, h3⟩ := h
  have hl := block_lt_of_cell h0
  exact ⟨(hb.cell (p := ⟨b, 0, none⟩) hl).trans h0, (hb.cell (p := ⟨b, 1, none⟩) hl).trans h1, (hb.cell (p := ⟨b, 2, none⟩) hl).trans h2, (hb.cell (p := ⟨b, 3, none⟩) hl).trans h3⟩
def IdxP (T tb : Nat) (tl l : Int) (ib : Nat) (il : Int) (w : World) (e : Ending) (w' : World) : Prop := ∃ b, e = .returned (.agg #[.iface 187 (.pointer (some ⟨b, 0, none⟩)), .int .i32 l]) ∧ Idx w' b T tb tl ib il ∧ w.heap.size ≤ b ∧ Below w.heap.size w w'
theorem idx16 (w : World) (T tb : Nat) (tl l : Int) (ib : Nat) (il : Int) : Calls Try.prog 16 #[.int .i32 l, .agg #[.iface T (.pointer (some ⟨tb, 0, none⟩)), .int .i32 tl], .agg #[.iface 178 (.pointer (some ⟨ib, 0, none⟩)), .int .i32 il]] w (IdxP T tb tl l ib il w) := by
  go_enter Try.func16, Try.ntmps16
  go_wp2_with fail
  refine bodyPost_ret (v := .agg #[.iface 187 (.pointer (some ⟨w.heap.size + 1 + 1 + 1, 0, none⟩)), .int .i32 l]) (by simp [results, Try.results16, go_sem]) rfl ⟨_, rfl, ⟨?_, ?_, ?_, ?_⟩, by omega, ?_⟩
  · rw [World.cell?_alloc_at _ _ _ _ (by simp)]; rfl
  · rw [World.cell?_alloc_at _ _ _ _ (by simp)]; rfl
  · rw [World.cell?_alloc_at _ _ _ _ (by simp)]; rfl
  · rw [World.cell?_alloc_at _ _ _ _ (by simp)]; rfl
  · exact ((((Below.refl _ _).alloc (Nat.le_refl _) _).alloc (by simp) _).alloc (by simp; omega) _).alloc (by simp; omega) _
/-- A string expression at block b. -/
def Str (w : World) (b : Nat) (xs : List Int) : Prop := ∃ v, w.cell? ⟨b, 0, none⟩ = some v ∧ Li w v xs
theorem Str.below {w w' : World} {b : Nat} {xs : List Int} (h : Str w b xs) (hb : Below w.heap.size w w') : Str w' b xs := by
  obtain ⟨v, h0, h1⟩ := h
  exact ⟨v, (hb.cell (p := ⟨b, 0, none⟩) (block_lt_of_cell h0)).trans h0, h1.below hb⟩
/-- The same, new from base on. -/
def StrB (base : Nat) (w : World) (b : Nat) (xs : List Int) : Prop := base ≤ b ∧ ∃ v, w.cell? ⟨b, 0, none⟩ = some v ∧ LiB base w v xs
theorem StrB.keep {base : Nat} {w w' : World} {b : Nat} {xs : List Int} (h : StrB base w b xs) (e : ∀ q, base ≤ q → q < w.heap.size → w'.heap[q]? = w.heap[q]?) : Str w' b xs := by
  obtain ⟨hb, v, h0, h1⟩ := h
  exact ⟨v, (World.cell?_of_block (a := ⟨b, 0, none⟩) (e b hb (block_lt_of_cell h0))).trans h0, h1.keep e⟩
theorem LiB.mono {base base' : Nat} {w w' : World} {v : Value} {xs : List Int} (h : LiB base w v xs) (hb : base' ≤ base) (e : ∀ q, base ≤ q → q < w.heap.size → w'.heap[q]? = w.heap[q]?) : LiB base' w' v xs := by
  obtain ⟨a, c, rfl, h⟩ := h
  refine ⟨a, c, rfl, fun h0 => ?_⟩
  obtain ⟨b, off, rfl, hb2, hc⟩ := h h0
  exact ⟨b, off, rfl, Nat.le_trans hb hb2, fun i hi => (World.cell?_of_block (a := ⟨b, off + i, none⟩) (e b hb2 (block_lt_of_cell (hc i hi)))).trans (hc i hi)⟩
theorem StrB.mono {base base' : Nat} {w w' : World} {b : Nat} {xs : List Int} (h : StrB base w b xs) (hb : base' ≤ base) (e : ∀ q, base ≤ q → q < w.heap.size → w'.heap[q]? = w.heap[q]?) : StrB base' w' b xs := by
  obtain ⟨hbb, v, h0, h1⟩ := h
  exact ⟨Nat.le_trans hb hbb, v, (World.cell?_of_block (a := ⟨b, 0, none⟩) (e b hbb (block_lt_of_cell h0))).trans h0, h1.mono hb e⟩
theorem StrB.str {base : Nat} {w : World} {b : Nat} {xs : List Int} (h : StrB base w b xs) : Str w b xs := h.keep fun _ _ _ => rfl
def StrP (xs : List Int) (l : Int) (w : World) (e : Ending) (w' : World) : Prop := ∃ b, e = .returned (.agg #[.iface 178 (.pointer (some ⟨b, 0, none⟩)), .int .i32 l]) ∧ StrB w.heap.size w' b xs ∧ Below w.heap.size w w'
theorem str17 (w : World) (l : Int) (s : ByteArray) (hs : s.size ≤ 1048576) : Calls Try.prog 17 #[.int .i32 l, .string s] w (StrP (us s s.size 0) l w) := by
  go_enter Try.func17, Try.ntmps17
  go_wp2_with fail
  refine (s2u _ s hs).mono ?_
  rintro e w2 ⟨⟨v, rfl, hv⟩, hb⟩
  have r0 : w2.cell? ⟨w.heap.size, 0, none⟩ = some .nilIface := (hb.cell (p := ⟨w.heap.size, 0, none⟩) (by simp)).trans (by simp)
  have r1 : w2.cell? ⟨w.heap.size, 1, none⟩ = some (.int .i32 0) := (hb.cell (p := ⟨w.heap.size, 1, none⟩) (by simp)).trans (by simp)
  have r2 : w2.frozen? ⟨w.heap.size, 0, none⟩ = false := (hb.frozen (p := ⟨w.heap.size, 0, none⟩) (by simp)).trans (by simp)
  have r3 : w2.frozen? ⟨w.heap.size, 1, none⟩ = false := (hb.frozen (p := ⟨w.heap.size, 1, none⟩) (by simp)).trans (by simp)
  have hz : w.heap.size < w2.heap.size := by have := hb.size; simp at this; omega
  have HB := Lib.hid (((Below.refl w.heap.size w).alloc (Nat.le_refl _) (.cells #[.nilIface, .int .i32 0] 31)).trans (hb.mono (by simp)))
  obtain ⟨va, vc, rfl, hrow⟩ := hv
  have HV : Hid (LiB (w.heap.size + 1) w2 (.slice va (us s s.size 0).length vc) (us s s.size 0)) := Lib.hid (by have : LiB _ w2 _ _ := ⟨va, vc, rfl, hrow⟩; simpa using this)
  clear hb hrow
  go_simp
  go_wp2_with fail
  refine bodyPost_ret (v := .agg #[.iface 178 (.pointer (some ⟨w2.heap.size, 0, none⟩)), .int .i32 l]) (by simp [results, Try.results17, go_sem, r0, r1, r2, r3, hz]) rfl ⟨w2.heap.size, rfl, ?_, ?_⟩
  · have hsz : ∀ A v B v', ((w2.setCell A v).setCell B v').heap.size = w2.heap.size := fun _ _ _ _ => by simp [World.setCell]
    refine ⟨by omega, .slice va (us s s.size 0).length vc, ?_, HV.out.mono (by omega) fun q hq hlt => ?_⟩
    · have h := fun A v B v' o => heap_alloc_new ((w2.setCell A v).setCell B v') o
      simp only [hsz] at h
      exact (cell_of_row _ w2.heap.size 0 _ _ _ (h _ _ _ _ _)).trans rfl
    · rw [Below.heap_alloc _ _ _ (by rw [hsz]; exact hlt), Below.heap_setCell _ _ _ _ (by show q ≠ w.heap.size; omega), Below.heap_setCell _ _ _ _ (by show q ≠ w.heap.size; omega)]
  · exact ((HB.out.setCell (by exact Nat.le_refl _) _).setCell (by exact Nat.le_refl _) _).alloc (by simpa [World.setCell] using HB.out.size) _
end Go.Proofs.Ytjhmdagdmclknaa.ut
