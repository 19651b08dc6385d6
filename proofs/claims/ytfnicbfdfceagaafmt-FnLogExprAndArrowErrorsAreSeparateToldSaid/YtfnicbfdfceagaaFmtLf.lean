/-
  The arrow arguments' errors are logged, walked.
-/
import Derived.Test.YtfnicbfdfceagaaFmtLe
import Derived.StillTailTactics
namespace Go.Proofs.YtfnicbfdfceagaaFmt.lg
open Go.ChangeShapes Go.WideShapes Go.ChangeAt Go.RowKit Go.Deep Go.MuLone
set_option linter.unusedVariables false
set_option linter.unusedSimpArgs false
set_option maxRecDepth 100000
set_option maxHeartbeats 4000000
/-- The parser's cells that are read. -/
structure PC (w : World) (b bk bs bm bh : Nat) (s : ByteArray) : Prop where
  c51 : w.cell? ⟨b, 51, none⟩ = some (.func (.func 20) #[] #[ptr bk 0, ptr bm 0, ptr bh 0, ptr bs 0])
  c52 : w.cell? ⟨b, 52, none⟩ = some (.func (.func 23) #[] #[ptr bm 0, ptr bh 0])
  c53 : w.cell? ⟨b, 53, none⟩ = some (.func (.func 24) #[] #[ptr bm 0, ptr bs 0])
  c54 : w.cell? ⟨b, 54, none⟩ = some (.func (.func 25) #[] #[ptr bm 0, ptr bs 0])
  c55 : w.cell? ⟨b, 55, none⟩ = some (.int .i8 3)
  c56 : w.cell? ⟨b, 56, none⟩ = some (.map none)
  c60 : w.cell? ⟨b, 60, none⟩ = some (.string s)
/-- A parser with its log: the messages M have been added. -/
structure PL (w : World) (D b bk bs bm bh : Nat) (s : ByteArray) (M : List Ms) : Prop where
  pc : PC w b bk bs bm bh s
  tg : TG w b 67 s
  lg : ∃ v, Lg w D b bk bs bm bh v M
theorem PL.bl {w : World} {D b bk bs bm bh : Nat} {s : ByteArray} {M : List Ms} (h : PL w D b bk bs bm bh s M) : Bl D b bk bs bm bh := by obtain ⟨v, l⟩ := h.lg; exact l.bl
theorem PC.of {w w' : World} {b bk bs bm bh : Nat} {s : ByteArray} (h : PC w b bk bs bm bh s) (c : ∀ q, q < 70 → w'.cell? ⟨b, q, none⟩ = w.cell? ⟨b, q, none⟩) : PC w' b bk bs bm bh s :=
  ⟨(c _ (by omega)).trans h.c51, (c _ (by omega)).trans h.c52, (c _ (by omega)).trans h.c53, (c _ (by omega)).trans h.c54, (c _ (by omega)).trans h.c55, (c _ (by omega)).trans h.c56, (c _ (by omega)).trans h.c60⟩
theorem PL.fresh {w w' : World} {D b bk bs bm bh : Nat} {s : ByteArray} {M : List Ms} (h : PL w D b bk bs bm bh s M) (t : Touch (fun _ => False) w w') : PL w' D b bk bs bm bh s M := by
  obtain ⟨v, l⟩ := h.lg
  have e := t.block b h.tg.lt id
  exact ⟨h.pc.of fun q _ => World.cell?_of_block (a := ⟨b, q, none⟩) e, h.tg.of_block e, v, l.fresh t⟩
theorem Ech.below {D b bk bs bm bh : Nat} {v : Value} {M : List Ms} {w w' : World} (l : Lg w D b bk bs bm bh v M) (h : Ech b bs bm bh v w w') (hD : D ≤ w.heap.size) : Below D w w' := by
  obtain ⟨o0, o1, o2, o3, o4⟩ := l.bl
  exact h.t.below hD fun k hk => by
    rcases hk with e | e | e | e | e
    · omega
    · omega
    · omega
    · omega
    · exact (l.row.lt k e).1
/-- One error more. -/
def ErrQ (w : World) (D b bk bs bm bh : Nat) (M : List Ms) (s : ByteArray) (len : Int) (e : Ending) (w' : World) : Prop :=
  e = .returned (.tuple #[]) ∧ ∃ m : Ms, m.len = len ∧ PL w' D b bk bs bm bh s (M ++ [m]) ∧ Below D w w' ∧ ∀ j, j < w.heap.size → j ≠ b → j ≠ bs → j ≠ bm → j ≠ bh → (∀ v, Lg w D b bk bs bm bh v M → v.ownBlock ≠ some j) → w'.heap[j]? = w.heap[j]?
theorem errQ (w : World) (D b bk bs bm bh : Nat) (M : List Ms) (s : ByteArray) (st : Nat) (len : Int) (txt : ByteArray) (L : PL w D b bk bs bm bh s M) (U : Tabs w) (hst : st ≤ s.size) (hsz : s.size ≤ 1048576)
    (hlen : -2147483648 ≤ len ∧ len ≤ 2147483647) (hM : M.length ≤ 1048576) (hD : 2 ≤ D) : Calls Tryf.prog 27 #[logv bk bs bm bh, ptr b 67, rng st len, .string txt] w (ErrQ w D b bk bs bm bh M s len) := by
  obtain ⟨v, l⟩ := L.lg
  have hb := L.tg.lt
  refine (err27 w D b bk bs bm bh v M s st len txt l L.tg U hst hsz hlen hM hD).mono ?_
  rintro e w' ⟨rfl, v', g, t, l', tg', ch, -⟩
  have hDs : D ≤ w.heap.size := by obtain ⟨o0, o1, o2, o3, o4⟩ := l.bl; omega
  exact ⟨rfl, ⟨g, t, len⟩, rfl, ⟨L.pc.of fun q hq => ch.c q (Or.inl hq), tg', v', l'⟩, ch.below l hDs, fun j h1 h2 h3 h4 h5 h6 => ch.t.block j h1 (by
    rintro (e | e | e | e | e)
    · exact h2 e
    · exact h3 e
    · exact h4 e
    · exact h5 e
    · exact h6 v l e)⟩
/-- A row of ranges, read alone. -/
def Rngs (w : World) (rp : Nat) (ps : List (Nat × Int)) : Prop := ∀ i, (h : i < ps.length) → w.cell? ⟨rp, i * 2, none⟩ = some (.int .i32 (ps[i].1 : Nat)) ∧ w.cell? ⟨rp, i * 2 + 1, none⟩ = some (.int .i32 ps[i].2)
def ArrP (w : World) (D b bk bs bm bh : Nat) (M : List Ms) (s : ByteArray) (ps : List (Nat × Int)) (e : Ending) (w' : World) : Prop :=
  e = .returned (.tuple #[]) ∧ ∃ N, N.map Ms.len = ps.map (·.2) ∧ PL w' D b bk bs bm bh s (M ++ N) ∧ Below D w w'
def RP (w : World) (D b bk bs bm bh : Nat) (M : List Ms) (s : ByteArray) (ps : List (Nat × Int)) (v : Value) (wr : World) : Prop :=
  ∃ i N, v = i64 (i : Nat) ∧ i ≤ ps.length ∧ N.map Ms.len = (ps.take i).map (·.2) ∧ PL wr D b bk bs bm bh s (M ++ N) ∧ Below D w wr
theorem arrow18 (w : World) (D b bk bs bm bh d rp : Nat) (M : List Ms) (s : ByteArray) (ps : List (Nat × Int)) (cap : Nat) (L : PL w D b bk bs bm bh s M) (U : Tabs w) (hsz : s.size ≤ 1048576) (hD : 2 ≤ D)
    (hd : w.cell? ⟨d, 6, none⟩ = some (.slice (some ⟨rp, 0, none⟩) ps.length cap)) (hdD : d < D) (hrD : rp < D) (hps : Rngs w rp ps) (hgood : ∀ p ∈ ps, p.1 ≤ s.size ∧ -2147483648 ≤ p.2 ∧ p.2 ≤ 2147483647)
    (hM : M.length + ps.length ≤ 1048576) : Calls Tryf.prog 18 #[ptr b 0, ptr d 0] w (ArrP w D b bk bs bm bh M s ps) := by
  have HL := Lib.hid L
  have HU := Lib.hid U
  have HG := Lib.hid hgood
  have HP := Lib.hid hps
  have hDs : D ≤ w.heap.size := by have := L.tg.lt; obtain ⟨o0, o1, o2, o3, o4⟩ := L.bl; omega
  clear L U hgood hps
  go_enter Tryf.func18, Tryf.ntmps18
  go_wp2_with fail
  go_loopw [11] (RP w D b bk bs bm bh M s ps) (fun v _ => ps.length - (intOf v).toNat)
  case atStart => exact ⟨0, [], rfl, Nat.zero_le _, by simp, by simpa using HL.out, Below.refl _ _⟩
  case round =>
    obtain ⟨i, N, rfl, hi, hN, hpl, hbl⟩ := hrel
    by_cases hlt : i < ps.length
    · obtain ⟨r0, r1⟩ := HP.out i hlt
      obtain ⟨p, hp⟩ : ∃ p, ps[i] = p := ⟨_, rfl⟩
      rw [hp] at r0 r1
      have hg := HG.out p (by rw [← hp]; exact List.getElem_mem _)
      have q0 : wr.cell? ⟨rp, i * 2, none⟩ = some (.int .i32 (p.1 : Nat)) := (hbl.cell (p := ⟨rp, i * 2, none⟩) hrD).trans r0
      have q1 : wr.cell? ⟨rp, i * 2 + 1, none⟩ = some (.int .i32 p.2) := (hbl.cell (p := ⟨rp, i * 2 + 1, none⟩) hrD).trans r1
      have HPL := Lib.hid hpl
      have HBL := Lib.hid hbl
      have HN := Lib.hid hN
      have HPP := Lib.hid hp
      have HGG := Lib.hid hg
      clear r0 r1 hpl hbl hN hp hg
      go_upto_region 3 with fail
      have hs0 : D ≤ wr.heap.size := Nat.le_trans hDs HBL.out.size
      have PW := Lib.hid (HPL.out.fresh (((Touch.refl (fun _ => False) wr).alloc (.cells #[.int .i32 (p.1 : Nat), .int .i32 p.2] 32)).drew))
      have BW := Lib.hid (show Below D w (wr.alloc (.cells #[.int .i32 (p.1 : Nat), .int .i32 p.2] 32)).drew from (HBL.out.alloc hs0 _).drew)
      have hy := heap_alloc_new wr (.cells #[.int .i32 (p.1 : Nat), .int .i32 p.2] 32)
      have UW := Lib.hid (show Tabs (wr.alloc (.cells #[.int .i32 (p.1 : Nat), .int .i32 p.2] 32)).drew from by
        have t : Touch (fun j => D ≤ j) w (wr.alloc (.cells #[.int .i32 (p.1 : Nat), .int .i32 p.2] 32)).drew := ⟨BW.out.os, BW.out.tape, BW.out.output, BW.out.size, fun k _ hn => BW.out.block k (by omega)⟩
        exact HU.out.touch t (by omega) (by omega))
      have PW0 := HPL.out.fresh ((Touch.refl (fun _ => False) wr).alloc (.cells #[.int .i32 (p.1 : Nat), .int .i32 p.2] 32))
      have hN0 := Lib.hid (show wr.heap.size + 1 = (wr.alloc (.cells #[.int .i32 (p.1 : Nat), .int .i32 p.2] 32)).heap.size by simp)
      generalize wr.heap.size = N0 at *
      have HY := Lib.hid hy
      generalize wr.alloc (.cells #[.int .i32 (p.1 : Nat), .int .i32 p.2] 32) = W1 at *
      have y0 : W1.cell? ⟨N0, 0, none⟩ = some (.int .i32 (p.1 : Nat)) := by rw [cell_of_row W1 _ 0 _ _ _ hy]; rfl
      have y1 : W1.cell? ⟨N0, 1, none⟩ = some (.int .i32 p.2) := by rw [cell_of_row W1 _ 1 _ _ _ hy]; rfl
      obtain ⟨k1, k2, k3, k4, k5, k6, -⟩ := PW0.pc
      clear hy PW0 q0 q1 hd
      go_still_tail 8, (by kernel_rfl)
      change wpList _ _ _ _ _ W1.drew
      clear k1 k2 k3 k4 k5 k6 y0 y1
      go_wp2_with (go_at_call 27; refine (errQ W1.drew D b bk bs bm bh (M ++ N) s p.1 p.2 _ PW.out UW.out HGG.out.1 hsz HGG.out.2 (by have := congrArg List.length HN.out; simp at this; simp; omega) hD).mono ?_; rintro _ W3 ⟨rfl, m, hm, pl3, bl3, -⟩; have P3 := Lib.hid pl3; have B3 := Lib.hid bl3; have M3 := Lib.hid hm; clear pl3 bl3 hm)
      refine ⟨⟨i + 1, N ++ [m], rfl, by omega, ?_, by rw [← List.append_assoc]; exact P3.out, BW.out.trans B3.out⟩, by simp [intOf]; omega⟩
      rw [List.take_add_one, List.map_append, List.map_append, HN.out]
      simp [hlt, HPP.out, M3.out]
    · obtain rfl : i = ps.length := by omega
      rw [List.take_length] at hN
      have HPL := Lib.hid hpl
      have HBL := Lib.hid hbl
      have HN := Lib.hid hN
      clear hpl hbl hN
      go_wp2_with fail
      go_end0
      exact ⟨rfl, N, HN.out, HPL.out, HBL.out⟩
end Go.Proofs.YtfnicbfdfceagaaFmt.lg
