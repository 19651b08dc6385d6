/-
  Declared symbols: recordDeclaredSymbol.
-/
import Derived.Test.YtnokeaddghfggaaSc
import Derived.LaidEqlPtr
namespace Go.Proofs.Ytnokeaddghfggaa.ds
open Go.ChangeShapes Go.WideShapes Go.ChangeAt Go.RowKit Go.Deep Go.Proofs.Ytnokeaddghfggaa.mk
set_option linter.unusedVariables false
set_option linter.unusedSimpArgs false

theorem part0 (w : World) (a b : Int) : (part 41 #[.int .u32 a, .int .u32 b] 0).run Try.prog w = .ok (.int .u32 a) w := by kernel_rfl
theorem part1 (w : World) (a b : Int) : (part 41 #[.int .u32 a, .int .u32 b] 1).run Try.prog w = .ok (.int .u32 b) w := by kernel_rfl
theorem eqi (w : World) (n : Nat) (a c : Int) : (Op.equalIn (n + 1) 41 (.int .u32 a) (.int .u32 c)).run Try.prog w = .ok (a == c) w := by
  simp [Op.equalIn, run_underlying Try.underlying41]
theorem eqr (w : World) (n : Nat) (a b c d : Int) : (Op.equalIn (n + 1 + 1) 43 (.agg #[.int .u32 a, .int .u32 b]) (.agg #[.int .u32 c, .int .u32 d])).run Try.prog w = .ok (a == c && b == d) w := by
  rw [Op.equalIn]
  cases h1 : a == c <;> cases h2 : b == d <;> simp [run_underlying Try.underlying43, part0, part1, eqi, h1, h2]
theorem eql43 (w : World) (a b c d : Int) (r : Bool) (h : (a == c && b == d) = r) : (binOp .eql 43 (.agg #[.int .u32 a, .int .u32 b]) (.agg #[.int .u32 c, .int .u32 d])).run Try.prog w = .ok (.bool r) w := by
  have := eqr w 9998 a b c d
  rw [h] at this
  simp only [binOp, Op.equal]
  have e : Op.maxDepth = 9998 + 1 + 1 := rfl
  simp [e, this]
theorem neq43 (w : World) (a b c d : Int) (r : Bool) (h : (a == c && b == d) = r) : (binOp .neq 43 (.agg #[.int .u32 a, .int .u32 b]) (.agg #[.int .u32 c, .int .u32 d])).run Try.prog w = .ok (.bool !r) w := by
  have := eqr w 9998 a b c d
  rw [h] at this
  simp only [binOp, Op.equal]
  have e : Op.maxDepth = 9998 + 1 + 1 := rfl
  simp [e, this]
theorem field79 (w : World) (a b c : Int) : (Instr.field 79 (.agg #[.int .u32 a, .int .u32 b, .int .i32 c]) 0).run Try.prog w = .ok (.agg #[.int .u32 a, .int .u32 b]) w := by kernel_rfl
theorem zero79 (w : World) : (zeroValue 79).run Try.prog w = .ok (.agg #[.int .u32 0, .int .u32 0, .int .i32 0]) w := by kernel_rfl
theorem ptr_same (w : World) (B : Nat) : (binOp .eql 28 (.pointer (some ⟨B, 0, none⟩)) (.pointer (some ⟨B, 0, none⟩))).run Try.prog w = .ok (.bool true) w := by
  have h : (Try.prog.info? 77).map (·.size) = some 16 := by kernel_rfl
  obtain ⟨i, hi, hb⟩ := Option.map_eq_some_iff.1 h
  exact run_eql_ptr_same w _ Try.underlying28 hi
theorem ptr_other {w : World} {C B : Nat} {ca cb : Array Value} (hne : C ≠ B) (h1 : w.heap[C]? = some (.cells ca 77 (0, 0))) (h2 : w.heap[B]? = some (.cells cb 77 (0, 0))) : (binOp .eql 28 (.pointer (some ⟨C, 0, none⟩)) (.pointer (some ⟨B, 0, none⟩))).run Try.prog w = .ok (.bool false) w := by
  have h : (Try.prog.info? 77).map (·.size) = some 16 := by kernel_rfl
  obtain ⟨i, hi, hb⟩ := Option.map_eq_some_iff.1 h
  exact run_eql_ptr_other w Try.underlying28 hi (by rw [hb]; omega) (by intro e; injection e; omega) h1 h2
theorem info45 : (Try.prog.info? 45).map (fun i => (i.zero.map (·.cells), i.size, i.bytes)) = some (some #[.int .u32 0, .int .u32 0, .bool false], 3, 12) := by kernel_rfl
theorem parts_of {T : TypeId} {cs : Array Value} {n b : Nat} (h : (Try.prog.info? T).map (fun i => (i.zero.map (·.cells), i.size, i.bytes)) = some (some cs, n, b)) :
    ∃ i z, Try.prog.info? T = some i ∧ i.zero = some z ∧ z.cells = cs ∧ i.size = n ∧ i.bytes = b := by
  obtain ⟨i, hi, hz⟩ := Option.map_eq_some_iff.1 h
  simp only [Prod.mk.injEq] at hz
  obtain ⟨h1, h2, h3⟩ := hz
  obtain ⟨z, hz, hzc⟩ := Option.map_eq_some_iff.1 h1
  exact ⟨i, z, hi, hz, hzc, h2, h3⟩
/-- The parser, its scopes, its symbols. -/
structure Dc (w : World) (D g C B MB SB PB n lk : Nat) (K : Nat → Int) (ln : Nat) (N : Nat → Int) (lm : Nat) (Q : Nat → Int) : Prop where
  c104 : w.cell? ⟨g, 104, none⟩ = some (.pointer (some ⟨C, 0, none⟩))
  c187 : w.cell? ⟨g, 187, none⟩ = some (.pointer (some ⟨B, 0, none⟩))
  c105 : w.cell? ⟨g, 105, none⟩ = some (.pointer (some ⟨PB, 0, none⟩))
  c106 : w.cell? ⟨g, 106, none⟩ = some (.slice (some ⟨SB, 0, none⟩) n n)
  syms : Syms w SB n (symC N ln K lk)
  c3 : w.cell? ⟨B, 3, none⟩ = some (.map (some MB))
  bB : ∃ ca, w.heap[B]? = some (.cells ca 77 (0, 0))
  bC : ∃ ca, w.heap[C]? = some (.cells ca 77 (0, 0))
  lc : C < D
  nc : C ≠ PB
  mp : ∃ m M, MapIs w MB StrKey m M ∧ Mem Q lm n 8 M
  ls : SB < D
  lb : B < D
  lm' : MB < D
  ng : g ≠ PB
  ns : SB ≠ PB
  nb : B ≠ PB
  nm' : MB ≠ PB
  np : PB < D
  dsz : D ≤ w.heap.size
/-- The list of declared symbols. -/
structure Dl (w : World) (D g PB m : Nat) (dv : Value) (xs : List Value) : Prop where
  p3 : w.cell? ⟨PB, 3, none⟩ = some dv
  f3 : w.frozen? ⟨PB, 3, none⟩ = false
  own : w.ownsRow D 45 3 dv m xs
  ng : dv.ownBlock ≠ some g
section
variable {w w' : World} {D g C B MB SB PB n lk : Nat} {K : Nat → Int} {ln : Nat} {N : Nat → Int} {lm : Nat} {Q : Nat → Int}
theorem Dc.keep (h : Dc w D g C B MB SB PB n lk K ln N lm Q) (hs : w.heap.size ≤ w'.heap.size) (e : ∀ b, b < D ∨ b = g → b ≠ PB → w'.heap[b]? = w.heap[b]?) : Dc w' D g C B MB SB PB n lk K ln N lm Q := by
  have cg : ∀ j, w'.cell? ⟨g, j, none⟩ = w.cell? ⟨g, j, none⟩ := fun j => World.cell?_of_block (a := ⟨g, j, none⟩) (e g (.inr rfl) h.ng)
  obtain ⟨m, M, h1, h2⟩ := h.mp
  exact ⟨(cg _).trans h.c104, (cg _).trans h.c187, (cg _).trans h.c105, (cg _).trans h.c106, h.syms.of_block (e SB (.inl h.ls) h.ns), (World.cell?_of_block (a := ⟨B, 3, none⟩) (e B (.inl h.lb) h.nb)).trans h.c3, by obtain ⟨ca, hc⟩ := h.bB; exact ⟨ca, (e B (.inl h.lb) h.nb).trans hc⟩, by obtain ⟨ca, hc⟩ := h.bC; exact ⟨ca, (e C (.inl h.lc) h.nc).trans hc⟩, h.lc, h.nc, ⟨m, M, h1.of_block (e MB (.inl h.lm') h.nm'), h2⟩, h.ls, h.lb, h.lm', h.ng, h.ns, h.nb, h.nm', h.np, Nat.le_trans h.dsz hs⟩
theorem Dc.store (h : Dc w D g C B MB SB PB n lk K ln N lm Q) (v : Value) : Dc (w.setCell ⟨PB, 3, none⟩ v) D g C B MB SB PB n lk K ln N lm Q :=
  h.keep (by simp [World.setCell]) (fun b _ hne => Below.heap_setCell _ _ _ _ hne)
end
/-- Parser and list. -/
def De (w : World) (D g C B MB SB PB n lk : Nat) (K : Nat → Int) (ln : Nat) (N : Nat → Int) (lm : Nat) (Q : Nat → Int) (m : Nat) (dv : Value) (xs : List Value) : Prop := Dc w D g C B MB SB PB n lk K ln N lm Q ∧ Dl w D g PB m dv xs
section
variable {w w' : World} {D g C B MB SB PB n lk : Nat} {K : Nat → Int} {ln : Nat} {N : Nat → Int} {lm : Nat} {Q : Nat → Int} {m : Nat} {dv : Value} {xs : List Value}
theorem De.blk (h : De w D g C B MB SB PB n lk K ln N lm Q m dv xs) (q : Nat) (e : dv.ownBlock = some q) : D ≤ q := (h.2.own.lt q e).1
theorem De.below (h : De w D g C B MB SB PB n lk K ln N lm Q m dv xs) (hb : Below w.heap.size w w') : De w' D g C B MB SB PB n lk K ln N lm Q m dv xs := by
  have h1 := h.1.dsz; have h2 := h.1.np; have h3 : g < w.heap.size := block_lt_of_cell h.1.c104
  refine ⟨h.1.keep hb.size (fun b hb1 _ => hb.block b (by omega)), (hb.cell (p := ⟨PB, 3, none⟩) (show PB < w.heap.size by omega)).trans h.2.p3, (hb.frozen (p := ⟨PB, 3, none⟩) (show PB < w.heap.size by omega)).trans h.2.f3, ?_, h.2.ng⟩
  obtain ⟨g1, g2⟩ := h.2.own
  refine ⟨g1, ?_⟩
  rcases g2 with g2 | ⟨q, cap, cur, e, hbq, hh, r⟩
  · exact .inl g2
  · exact .inr ⟨q, cap, cur, e, hbq, (hb.block q (lt_of_block hh)).trans hh, r⟩
theorem De.alloc (h : De w D g C B MB SB PB n lk K ln N lm Q m dv xs) (o : Obj) : De (w.alloc o) D g C B MB SB PB n lk K ln N lm Q m dv xs := h.below ((Below.refl _ _).alloc (Nat.le_refl _) _)
theorem De.drew (h : De w D g C B MB SB PB n lk K ln N lm Q m dv xs) : De w.drew D g C B MB SB PB n lk K ln N lm Q m dv xs := h.below ⟨rfl, rfl, rfl, Nat.le_refl _, fun _ _ => rfl⟩
/-- What an append leaves. -/
theorem De.grow {w2 : World} {o : Obj} (h : De w D g C B MB SB PB n lk K ln N lm Q m dv xs) (hG : ((w.alloc o).drew).grownBy w2 dv.ownBlock) :
    w2.cell? ⟨g, 105, none⟩ = some (.pointer (some ⟨PB, 0, none⟩)) ∧ w2.cell? ⟨PB, 3, none⟩ = some dv ∧ w2.frozen? ⟨PB, 3, none⟩ = false ∧ PB < w2.heap.size ∧ PB < D ∧ Dc w2 D g C B MB SB PB n lk K ln N lm Q := by
  have h1 := h.1.dsz; have h2 := h.1.np; have h3 : g < w.heap.size := block_lt_of_cell h.1.c104
  have hbk : ∀ q, q < D ∨ q = g → w2.heap[q]? = w.heap[q]? := fun q hq => (hG.block q (by simp [heap_drew]; omega) (fun e => by
    rcases hq with hq | hq
    · have := h.blk q e.symm; omega
    · subst hq; exact h.2.ng e.symm)).trans (Below.heap_alloc _ _ _ (by omega))
  have hs : w.heap.size ≤ w2.heap.size := by have := hG.size; simp [heap_drew] at this; omega
  exact ⟨(World.cell?_of_block (a := ⟨g, 105, none⟩) (hbk g (.inr rfl))).trans h.1.c105, (World.cell?_of_block (a := ⟨PB, 3, none⟩) (hbk PB (.inl h2))).trans h.2.p3, (World.frozen?_of_block (a := ⟨PB, 3, none⟩) (hbk PB (.inl h2))).trans h.2.f3, by omega, h2, h.1.keep hs (fun b hb _ => hbk b hb)⟩
theorem De.ngk {k : Nat} {o : Obj} (h : De w D g C B MB SB PB n lk K ln N lm Q m dv xs) (hat : dv.ownBlock = some k ∨ k = ((w.alloc o).drew).heap.size) : k ≠ g := by
  have h3 : g < w.heap.size := block_lt_of_cell h.1.c104
  rcases hat with e | e
  · rintro rfl; exact h.2.ng e
  · rw [e]; simp [heap_drew]; omega
theorem De.fin {w2 : World} {k cap m : Nat} {xs : List Value} {dv0 : Value} (hO : w2.ownsRow D 45 3 (.slice (some ⟨k, 0, none⟩) m cap) m xs) (hc : w2.cell? ⟨PB, 3, none⟩ = some dv0) (hf : w2.frozen? ⟨PB, 3, none⟩ = false) (hPD : PB < D) (hkg : k ≠ g) : Dl (w2.setCell ⟨PB, 3, none⟩ (.slice (some ⟨k, 0, none⟩) m cap)) D g PB m (.slice (some ⟨k, 0, none⟩) m cap) xs := by
  refine ⟨World.cell?_setCell_same _ _ _ hc, (World.frozen?_setCell _ _ _ _).trans hf, ownsRow_setCell_other hO (a := ⟨PB, 3, none⟩) (fun e => ?_) _, by simp [Value.ownBlock, hkg]⟩
  have := (hO.lt PB e).1; omega
end
/-- What one call leaves. -/
def RcP (w : World) (D g C B MB SB PB n lk : Nat) (K : Nat → Int) (ln : Nat) (N : Nat → Int) (lm : Nat) (Q : Nat → Int) (m : Nat) (xs : List Value) (i : Nat) (b : Bool) (e : Ending) (w' : World) : Prop :=
  e = .returned (.tuple #[]) ∧ (∃ k cap, Dc w' D g C B MB SB PB n lk K ln N lm Q ∧ Dl w' D g PB (m + 1) (.slice (some ⟨k, 0, none⟩) (m + 1) cap) (xs ++ [.int .u32 1, .int .u32 i, .bool b])) ∧ Touch (fun q => q = PB ∨ D ≤ q) w w'
theorem knd_hst (K : Nat → Int) (lk i : Nat) : (knd K lk i == 1 || knd K lk i == 2) = hst K lk i := by
  unfold knd hst
  by_cases h0 : lk = 0
  · simp [h0]
  · simp only [if_neg h0]
    by_cases h1 : K (i % lk) % 3 = 0
    · simp [h1]
    · by_cases h2 : K (i % lk) % 3 = 1
      · simp [h2]
      · simp only [if_neg h1, if_neg h2]
        have h3 : ¬ K (i % lk) % 3 < 2 := by omega
        simp [h3]
theorem knd_bd (K : Nat → Int) (lk i : Nat) : 0 ≤ knd K lk i ∧ knd K lk i < 256 := by
  unfold knd; split
  · omega
  · split
    · omega
    · split <;> omega
end Go.Proofs.Ytnokeaddghfggaa.ds
