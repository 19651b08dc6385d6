/-
  The law's three runs: what each call needs and keeps.
-/
import Derived.Test.YtfnicbfdfceagaaFmtLi
namespace Go.Proofs.YtfnicbfdfceagaaFmt.lg
open Go.ChangeShapes Go.WideShapes Go.ChangeAt Go.RowKit Go.Deep
open Go.Extern.Stop Go.Stop Go.Extern
set_option linter.unusedVariables false
set_option linter.unusedSimpArgs false
set_option maxRecDepth 100000
set_option maxHeartbeats 4000000
abbrev B32 (x : Int) : Prop := -2147483648 ≤ x ∧ x ≤ 2147483647
/-- The law's own rows and the errors' struct, as they stand ahead of a run. -/
structure Sx (F : Interp) (W : World) (s : ByteArray) (p N i rb g20 g21 : Nat) (dS dL aS aL : Int) (V5 V6 : Nat → Int) (es : List Int) : Prop where
  an : F.answers W.tape
  tb : Tabs W
  de : De W p dS dL aS aL
  c6 : W.cell? ⟨p, 6, none⟩ = some (.slice (some ⟨N, 0, none⟩) i i)
  rn : PRow W N i i V5 V6
  r1 : IR W rb ((List.range i).map V6)
  r2 : IR W g20 es
  r3 : IR W g21 (es ++ (List.range i).map V6)
  lt : p < W.heap.size ∧ N < W.heap.size ∧ rb < W.heap.size ∧ g20 < W.heap.size ∧ g21 < W.heap.size ∧ 2 ≤ W.heap.size
  sz : s.size ≤ 1048576 ∧ i ≤ 4096
  es : es = one dL ++ one aL
  f1 : Fits dS dL s.size
  f2 : Fits aS aL s.size
  st : ∀ j, j < i → 0 ≤ V5 j ∧ V5 j ≤ s.size
  b6 : ∀ j, j < i → B32 (V6 j)
theorem Below.tabs {w w' : World} (h : Below w.heap.size w w') (t : Tabs w) : Tabs w' := t.touch (Touch.of_below h (fun _ => False)) id id
section
variable {F : Interp} {W : World} {s : ByteArray} {p N i rb g20 g21 : Nat} {dS dL aS aL : Int} {V5 V6 : Nat → Int} {es : List Int}
theorem Sx.below {W' : World} (S : Sx F W s p N i rb g20 g21 dS dL aS aL V5 V6 es) (h : Below W.heap.size W W') : Sx F W' s p N i rb g20 g21 dS dL aS aL V5 V6 es := by
  obtain ⟨l1, l2, l3, l4, l5, l6⟩ := S.lt
  have z := h.size
  exact ⟨by rw [h.tape]; exact S.an, Below.tabs h S.tb, S.de.below h l1, (h.cell (p := ⟨p, 6, none⟩) l1).trans S.c6, S.rn.of_block (h.block N l2), S.r1.of_block (h.block rb l3), S.r2.of_block (h.block g20 l4), S.r3.of_block (h.block g21 l5),
    ⟨by omega, by omega, by omega, by omega, by omega, by omega⟩, S.sz, S.es, S.f1, S.f2, S.st, S.b6⟩
theorem Sx.len_es (S : Sx F W s p N i rb g20 g21 dS dL aS aL V5 V6 es) : es.length ≤ 2 := by
  rw [S.es]; unfold one; split <;> split <;> simp
/-- The ranges as pairs. -/
def prs (V5 V6 : Nat → Int) (i : Nat) : List (Nat × Int) := (List.range i).map fun j => ((V5 j).toNat, V6 j)
theorem prs_len (V5 V6 : Nat → Int) (i : Nat) : (prs V5 V6 i).length = i := by simp [prs]
theorem prs_snd (V5 V6 : Nat → Int) (i : Nat) : (prs V5 V6 i).map (·.2) = (List.range i).map V6 := by simp [prs]
theorem Sx.rngs (S : Sx F W s p N i rb g20 g21 dS dL aS aL V5 V6 es) : Rngs W N (prs V5 V6 i) := by
  intro j hj
  rw [prs_len] at hj
  obtain ⟨h1, h2⟩ := S.rn.c j hj
  have e : (prs V5 V6 i)[j]'(by rw [prs_len]; exact hj) = ((V5 j).toNat, V6 j) := by simp [prs]
  rw [e]
  refine ⟨?_, h2⟩
  rw [h1]
  have := (S.st j hj).1
  show some (i32 (V5 j)) = some (.int .i32 ((V5 j).toNat : Nat))
  rw [Int.toNat_of_nonneg this]
theorem Sx.good (S : Sx F W s p N i rb g20 g21 dS dL aS aL V5 V6 es) : ∀ q ∈ prs V5 V6 i, q.1 ≤ s.size ∧ -2147483648 ≤ q.2 ∧ q.2 ≤ 2147483647 := by
  intro q hq
  unfold prs at hq
  obtain ⟨j, hj, rfl⟩ := List.mem_map.1 hq
  have hji := List.mem_range.1 hj
  have := S.st j hji
  exact ⟨by show (V5 j).toNat ≤ s.size; omega, S.b6 j hji⟩
end
/-- A parser whose log holds errors of the lengths ls. -/
def LogS (W : World) (b : Nat) (s : ByteArray) (ls : List Int) (W2 : World) : Prop := ∃ bk bs bm bh M, M.map Ms.len = ls ∧ PL W2 W.heap.size b bk bs bm bh s M ∧ Below W.heap.size W W2
def MsgS (W : World) (ls : List Int) (g : Option Addr) (W2 : World) : Prop := ∃ M : List Ms, M.length = ls.length ∧ (M.map Ms.len).Perm ls ∧ Lens W2 g M ∧ Below W.heap.size W W2
def C10 (W : World) (s : ByteArray) (e : Ending) (W' : World) : Prop := ∃ b, e = .returned (ptr b 0) ∧ LogS W b s [] W'
theorem c10 (W : World) (s : ByteArray) : Calls Tryf.prog 10 #[.string s] W (C10 W s) := by
  refine (new10 W s).mono ?_
  rintro e W' ⟨b, bk, bs, bm, bh, rfl, pl, bl⟩
  exact ⟨b, rfl, bk, bs, bm, bh, [], rfl, pl, bl⟩
def C11 (W : World) (b : Nat) (s : ByteArray) (ls : List Int) (e : Ending) (W' : World) : Prop := e = .returned (.tuple #[]) ∧ LogS W b s ls W'
theorem c11 {F : Interp} {W W1 : World} {s : ByteArray} {p N i rb g20 g21 : Nat} {dS dL aS aL : Int} {V5 V6 : Nat → Int} {es ls : List Int} {b : Nat} (S : Sx F W s p N i rb g20 g21 dS dL aS aL V5 V6 es)
    (L : LogS W b s ls W1) (hl : ls.length ≤ 100000) : Calls Tryf.prog 11 #[ptr b 0, ptr p 0] W1 (C11 W b s (ls ++ es)) := by
  obtain ⟨bk, bs, bm, bh, M, hM, pl, bl⟩ := L
  have S1 := S.below bl
  have hlen : M.length = ls.length := by rw [← hM, List.length_map]
  refine (expr11 F W1 S1.an W.heap.size b bk bs bm bh p M s dS dL aS aL pl S1.tb S.sz.1 S.lt.2.2.2.2.2 S1.de S.lt.1 S.f1 S.f2 (by omega)).mono ?_
  rintro e W2 ⟨rfl, M', hM', pl2, bl2⟩
  exact ⟨rfl, bk, bs, bm, bh, M ++ M', by rw [List.map_append, hM, hM', S.es], pl2, bl.trans bl2⟩
theorem c12 {F : Interp} {W W1 : World} {s : ByteArray} {p N i rb g20 g21 : Nat} {dS dL aS aL : Int} {V5 V6 : Nat → Int} {es ls : List Int} {b : Nat} (S : Sx F W s p N i rb g20 g21 dS dL aS aL V5 V6 es)
    (L : LogS W b s ls W1) (hl : ls.length ≤ 100000) : Calls Tryf.prog 12 #[ptr b 0, ptr p 0] W1 (C11 W b s (ls ++ (List.range i).map V6)) := by
  obtain ⟨bk, bs, bm, bh, M, hM, pl, bl⟩ := L
  have S1 := S.below bl
  have hlen : M.length = ls.length := by rw [← hM, List.length_map]
  have hi := S.sz.2
  refine (arrow12 W1 W.heap.size b bk bs bm bh p N M s (prs V5 V6 i) i pl S1.tb S.sz.1 S.lt.2.2.2.2.2 (by rw [prs_len]; exact S1.c6) S.lt.1 S.lt.2.1 S1.rngs S1.good (by rw [prs_len]; omega)).mono ?_
  rintro e W2 ⟨rfl, M', hM', pl2, bl2⟩
  exact ⟨rfl, bk, bs, bm, bh, M ++ M', by rw [List.map_append, hM, hM', prs_snd], pl2, bl.trans bl2⟩
def C14 (W : World) (ls : List Int) (e : Ending) (W' : World) : Prop := ∃ g cap, e = .returned (.slice g ls.length cap) ∧ MsgS W ls g W'
theorem c14 {W W1 : World} {s : ByteArray} {ls : List Int} {b : Nat} (L : LogS W b s ls W1) (hl : ls.length ≤ 100000) : Calls Tryf.prog 14 #[ptr b 0] W1 (C14 W ls) := by
  obtain ⟨bk, bs, bm, bh, M, hM, pl, bl⟩ := L
  have hlen : M.length = ls.length := by rw [← hM, List.length_map]
  refine (done14 W1 W.heap.size b bk bs bm bh M s pl (by omega)).mono ?_
  rintro e W2 ⟨g, cap, M', rfl, hp, hr, bl2⟩
  refine ⟨g, cap, by rw [hlen], M', by rw [hp.length_eq, hlen], ?_, hr.lens, bl.trans bl2⟩
  rw [← hM]
  exact hp.map _
theorem c13 {W W2 : World} {ls : List Int} {g : Option Addr} {n m cap rw' capw : Nat} (M : MsgS W ls g W2) (hr : IR W rw' ls) (hlt : rw' < W.heap.size) (hl : ls.length ≤ 100000) (hn : ls.length = n) (hm : ls.length = m) :
    Calls Tryf.prog 13 #[.slice g n cap, .slice (some ⟨rw', 0, none⟩) m capw] W2 (YesP W) := by
  subst hm
  subst hn
  obtain ⟨M, hM, hp, hL, bl⟩ := M
  have h := errs13 W2 g M cap rw' capw ls hL (hr.of_block (bl.block rw' hlt)) (by have := bl.size; omega) hp (by omega)
  rw [hM] at h
  refine h.mono ?_
  rintro e W3 ⟨rfl, bl3⟩
  exact ⟨rfl, bl.trans (bl3.mono bl.size)⟩
/-- The row that grows, copying es. -/
def RGr (base : Nat) (w0 : World) (pre es : List Int) (v21 v22 : Value) (wr : World) : Prop := ∃ j : Nat, v22 = i64 j ∧ j ≤ es.length ∧ Ow base w0 wr v21 (pre ++ es.take j)
theorem take_snoc (pre es : List Int) (j : Nat) (h : j < es.length) : pre ++ es.take (j + 1) = (pre ++ es.take j) ++ [es[j]] := by
  rw [List.append_assoc, List.take_add_one]
  simp [h]
end Go.Proofs.YtfnicbfdfceagaaFmt.lg
