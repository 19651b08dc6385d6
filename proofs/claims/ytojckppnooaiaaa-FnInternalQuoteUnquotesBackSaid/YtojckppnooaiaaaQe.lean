/-
  A buffer of bytes of one's own: one word, and what an append does to it.
-/
import Derived.Test.YtojckppnooaiaaaQd
import Derived.Lib.BufSteps
import Derived.StillTailTactics
namespace Go.Proofs.Ytojckppnooaiaaa.qw
open Go.ChangeShapes Go.WideShapes Go.ChangeAt Go.RowKit Go.Deep Go.Proofs.Ytojckppnooaiaaa.qp
set_option linter.unusedVariables false
set_option linter.unusedSimpArgs false
def vs (ys : List Int) : List Value := ys.map (Value.int .u8)
theorem vs_app (a b : List Int) : vs (a ++ b) = vs a ++ vs b := by unfold vs; rw [List.map_append]
theorem vs_len (a : List Int) : (vs a).length = a.length := by unfold vs; rw [List.length_map]
/-- v is a slice of bytes ys of one's own in w; what was there before B in W0 is as it was. -/
def Ob (W0 w : World) (v : Value) (ys : List Int) : Prop := Lib.OwnBuf W0.heap.size 5 v ys.length (vs ys) W0 w
theorem Ob.below {W0 w : World} {v : Value} {ys : List Int} (h : Ob W0 w v ys) : Below W0.heap.size W0 w := h.2.1
theorem Ob.size {W0 w : World} {v : Value} {ys : List Int} (h : Ob W0 w v ys) : W0.heap.size ≤ w.heap.size := h.2.2
theorem Ob.alloc {W0 w : World} {v : Value} {ys : List Int} (h : Ob W0 w v ys) (o : Obj) : Ob W0 (w.alloc o) v ys := Lib.OwnBuf.alloc h o
theorem Ob.drew {W0 w : World} {v : Value} {ys : List Int} (h : Ob W0 w v ys) : Ob W0 w.drew v ys := Lib.OwnBuf.drewN h 1
theorem Ob.nil (w : World) : Ob w w (.slice none 0 0) [] := ⟨World.ownsRowF_nil _ _ _ _, Below.refl _ _, Nat.le_refl _⟩
/-- Seen from an earlier world. -/
theorem Ob.back {W0 W1 w : World} {v : Value} {ys : List Int} (h : Ob W1 w v ys) (hb : Below W0.heap.size W0 W1) : Ob W0 w v ys := by
  have hs := hb.size
  refine ⟨?_, ?_, Nat.le_trans hs h.2.2⟩
  · obtain ⟨h1, h2⟩ := h.1
    refine ⟨h1, ?_⟩
    rcases h2 with h2 | ⟨g, cap, cur, fz, e, hbg, h3⟩
    · exact .inl h2
    · exact .inr ⟨g, cap, cur, fz, e, Nat.le_trans hs hbg, h3⟩
  · have h1 := h.2.1
    refine ⟨h1.os.trans hb.os, h1.tape.trans hb.tape, h1.output.trans hb.output, Nat.le_trans hs h1.size, fun k hk => (h1.block k (Nat.lt_of_lt_of_le hk hs)).trans (hb.block k hk)⟩
theorem info8 : (Try.prog.info? 5).map (fun i => (i.zero, i.size, i.bytes)) = some (some (.int .u8 0), 1, 1) := by kernel_rfl
theorem ones8 (l : List Int) : ∀ u ∈ vs l, u.oneCell' = true := by
  intro u hu
  obtain ⟨x, _, rfl⟩ := List.mem_map.1 hu
  rfl
theorem news8 (W : World) (news : List Int) (arr : Array Value) (harr : arr = (vs news).toArray) : ∀ j u, (vs news)[j]? = some u → (W.alloc (.cells arr 5)).cell? ((⟨W.heap.size, 0, none⟩ : Addr).add j) = some u := by
  intro j u h
  have hc := cell_of_row (W.alloc (.cells arr 5)) W.heap.size j _ _ _ (heap_alloc_new W _)
  rw [Go.WideShapes.add_plain, Nat.zero_add, hc, harr]
  simpa using h
/-- 'append(v, a, b, ..)': the new bytes lie in the block made for them. -/
theorem app {ops : Array Oper} {rest : List Oper} {o : Oper} {a : Act} {Q : Exit → Act → World → Prop} (s x : Operand) (hgd : o.guard = none)
    (ho : o.op = .call { callee := .builtin .append, args := #[s, x], argTypes := #[24, 24] })
    (W0 w0 : World) (v : Value) (ys : List Int) (news : List Int) (arr : Array Value) (harr : arr = (vs news).toArray) (m c : Nat) (hm : m = news.length) (hs : a.eval s = v) (hb : Ob W0 w0 v ys)
    (hx : a.eval x = .slice (some ⟨w0.heap.size, 0, none⟩) m c) (hlen : ys.length + news.length ≤ 20000000)
    (h : ∀ v' w', Ob W0 w' v' (ys ++ news) → wpList Try.prog ops Q rest (a.put o.dst v') w') : wpList Try.prog ops Q (o :: rest) a (w0.alloc (.cells arr 5)) := by
  obtain ⟨i, hi, hz⟩ := Option.map_eq_some_iff.1 info8
  simp only [Prod.mk.injEq] at hz
  obtain ⟨hz, hsz, hby⟩ := hz
  have hb' := hb.alloc (.cells arr 5)
  subst hm
  refine wpList_append_ownF _ hgd s x 24 ho W0.heap.size 5 i (.int .u8 0) 1 1 Try.underlying24 hi hz hsz hby rfl (by decide) v ys.length (vs ys) hs hb'.1 ⟨w0.heap.size, 0, none⟩ news.length c (vs news) hx (by rw [vs_len]; omega)
    (news8 w0 news arr harr) (ones8 news) (by unfold maxLen; omega) (by omega) hb'.2.2 ?_
  intro v' w' ho' hg _
  refine h v' w' ?_
  have := Lib.OwnBuf.grown hb' (v' := v') (n' := ys.length + news.length) (xs' := vs ys ++ vs news) ho' hg
  unfold Ob
  rw [vs_app, List.length_append]
  exact this
/-- 'append(v, text...)'. -/
theorem appS {ops : Array Oper} {rest : List Oper} {o : Oper} {a : Act} {Q : Exit → Act → World → Prop} (s x : Operand) (hgd : o.guard = none)
    (ho : o.op = .call { callee := .builtin .append, args := #[s, x], argTypes := #[24, 9] })
    (W0 w : World) (v : Value) (ys : List Int) (news : List Int) (t : ByteArray) (ht : Lib.strCells t = vs news) (hs : a.eval s = v) (hb : Ob W0 w v ys)
    (hx : a.eval x = .string t) (hlen : ys.length + news.length ≤ 20000000)
    (h : ∀ v' w', Ob W0 w' v' (ys ++ news) → wpList Try.prog ops Q rest (a.put o.dst v') w') : wpList Try.prog ops Q (o :: rest) a w := by
  obtain ⟨i, hi, hz⟩ := Option.map_eq_some_iff.1 info8
  simp only [Prod.mk.injEq] at hz
  obtain ⟨hz, hsz, hby⟩ := hz
  have hl : t.size = news.length := by rw [← Lib.strCells_length, ht, vs_len]
  refine Lib.wpList_append_text hgd s x 24 9 ho W0.heap.size 5 i Try.underlying24 Try.underlying9 hi hz hsz hby v ys.length (vs ys) hs W0 hb t hx (by omega) ?_
  intro v' w' hb'
  refine h v' w' ?_
  unfold Ob
  rw [vs_app, List.length_append, ← hl, ← ht]
  exact hb'
theorem make8 (w : World) (c : Nat) (hc : c ≤ 20000000) : (Instr.makeSlice 24 (.int .i64 0) (.int .i64 c)).run Try.prog w = .ok (.slice (some ⟨w.heap.size, 0, none⟩) 0 c) (w.alloc (.cells (madeCells #[.int .u8 0] c) 5)) := by
  obtain ⟨i, hi, hz⟩ := Option.map_eq_some_iff.1 info8
  simp only [Prod.mk.injEq] at hz
  obtain ⟨h1, h2, h3⟩ := hz
  have hr := run_make (P := Try.prog) w 24 5 i _ Try.underlying24 hi h1 .i64 .i64 0 c (by omega) (by omega) (by rw [h3]; omega) (by omega)
  simp only [Int.toNat_natCast, h2, Nat.mul_one] at hr
  exact hr
theorem Ob.made {W0 w : World} (hb : Below W0.heap.size W0 w) (c : Nat) (hc : c ≤ 20000000) : Ob W0 (w.alloc (.cells (madeCells #[.int .u8 0] c) 5)) (.slice (some ⟨w.heap.size, 0, none⟩) 0 c) [] := by
  have hs := hb.size
  refine ⟨World.ownsRowF_of (World.ownsRow_made w (madeCells #[.int .u8 0] c) c hs (by unfold maxLen; omega) (by simp [size_madeCells])), hb.alloc hs _, by simp; omega⟩
end Go.Proofs.Ytojckppnooaiaaa.qw
