/-
  An error is added to the log, walked.
-/
import Derived.Test.YtfnicbfdfceagaaFmtLg
import Derived.Laws.EntriesVeiled
import Derived.Deep.RegionHeld3
namespace Go.Proofs.YtfnicbfdfceagaaFmt.lg
open Go.ChangeShapes Go.WideShapes Go.ChangeAt Go.RowKit Go.Deep Go.MuLone
set_option linter.unusedVariables false
set_option linter.unusedSimpArgs false
set_option maxRecDepth 100000
set_option maxHeartbeats 4000000
section
variable {w w' : World} {D b bk bs bm bh : Nat} {v : Value} {M : List Ms}
theorem Lg.lts (L : Lg w D b bk bs bm bh v M) : bk < w.heap.size ∧ bs < w.heap.size ∧ bm < w.heap.size ∧ bh < w.heap.size := by
  obtain ⟨x, h⟩ := L.has
  exact ⟨block_lt_of_cell L.kind, block_lt_of_cell L.msgs, block_lt_of_cell L.mu, block_lt_of_cell h⟩
theorem Lg.touch {F : Nat → Prop} (L : Lg w D b bk bs bm bh v M) (t : Touch F w w') (h1 : ¬ F bk) (h2 : ¬ F bs) (h3 : ¬ F bm) (h4 : ¬ F bh) (h5 : ∀ k, v.ownBlock = some k → ¬ F k) (h6 : ∀ m ∈ M, ¬ F m.g) : Lg w' D b bk bs bm bh v M := by
  obtain ⟨l1, l2, l3, l4⟩ := L.lts
  have c : ∀ {k q : Nat} {u : Value}, k < w.heap.size → ¬ F k → w.cell? ⟨k, q, none⟩ = some u → w'.cell? ⟨k, q, none⟩ = some u := fun {k q u} hk hn h => (World.cell?_of_block (a := ⟨k, q, none⟩) (t.block k hk hn)).trans h
  have z : ∀ {k q : Nat}, k < w.heap.size → ¬ F k → w.frozen? ⟨k, q, none⟩ = false → w'.frozen? ⟨k, q, none⟩ = false := fun {k q} hk hn h => (World.frozen?_of_block (a := ⟨k, q, none⟩) (t.block k hk hn)).trans h
  obtain ⟨x, hx⟩ := L.has
  refine ⟨L.bl, c l1 h1 L.kind, c l3 h3 L.mu, z l3 h3 L.muz, ⟨x, c l4 h4 hx⟩, z l4 h4 L.hasz, c l2 h2 L.msgs, z l2 h2 L.msgz, ?_, L.far, fun m hm => ?_⟩
  · refine ⟨L.row.1, ?_⟩
    rcases L.row.2 with h | ⟨g, cap, cur, rfl, hb, hh, r⟩
    · exact .inl h
    · exact .inr ⟨g, cap, cur, rfl, hb, (t.block g (lt_of_block hh) (h5 g rfl)).trans hh, r⟩
  · obtain ⟨a1, a2⟩ := L.loc m hm
    exact ⟨a1.of_block (t.block _ a1.lt (h6 m hm)), a2⟩
theorem Lg.fresh (L : Lg w D b bk bs bm bh v M) (t : Touch (fun _ => False) w w') : Lg w' D b bk bs bm bh v M := L.touch t id id id id (fun _ _ => id) (fun _ _ => id)
theorem Lg.tch {o : Nat} (L : Lg w D b bk bs bm bh v M) (t : Tch b o w w') : Lg w' D b bk bs bm bh v M := by
  obtain ⟨o0, o1, o2, o3, o4⟩ := L.bl
  exact L.touch t.t (by omega) (by omega) (by omega) (by omega) (fun k h => (L.far k h).2.2.2.2) (fun m hm => (L.loc m hm).2.2.2.2.2.1)
end
/-- The log as a value. -/
abbrev logv (bk bs bm bh : Nat) : Value := .agg #[.func (.func 20) #[] #[ptr bk 0, ptr bm 0, ptr bh 0, ptr bs 0], .func (.func 23) #[] #[ptr bm 0, ptr bh 0], .func (.func 24) #[] #[ptr bm 0, ptr bs 0], .func (.func 25) #[] #[ptr bm 0, ptr bs 0], .int .i8 3, .map none]
/-- What an error leaves behind: the parser's block has turned in the tracker's cells alone. -/
structure Ech (b bs bm bh : Nat) (v : Value) (w w' : World) : Prop where
  t : Touch (fun k => k = b ∨ AddF bs bm bh v k) w w'
  c : ∀ q, q < 70 ∨ 76 ≤ q → w'.cell? ⟨b, q, none⟩ = w.cell? ⟨b, q, none⟩
  z : ∀ q, w'.frozen? ⟨b, q, none⟩ = w.frozen? ⟨b, q, none⟩
def ErrP (w : World) (D b bk bs bm bh : Nat) (v : Value) (M : List Ms) (s : ByteArray) (len : Int) (e : Ending) (w' : World) : Prop :=
  e = .returned (.tuple #[]) ∧ ∃ v' g txt, Lg w' D b bk bs bm bh v' (M ++ [⟨g, txt, len⟩]) ∧ TG w' b 67 s ∧ Ech b bs bm bh v w w' ∧ (∀ k, v'.ownBlock = some k → v.ownBlock = some k ∨ w.heap.size ≤ k)
theorem addS {W2 W3 : World} {N bk bs bm bh : Nat} {v : Value} {x y z : Value} (t : Touch (AddF bs bm bh v) W2 W3) (hl : N + 1 < W2.heap.size) (h : bk < N ∧ bs < N ∧ bm < N ∧ bh < N) (hv : ∀ k, v.ownBlock = some k → k < N)
    (s : W2.cell? ⟨N, 0, none⟩ = some x ∧ W2.cell? ⟨N + 1, 0, none⟩ = some y ∧ W2.cell? ⟨N + 1, 1, none⟩ = some z) : W3.cell? ⟨N, 0, none⟩ = some x ∧ W3.cell? ⟨N + 1, 0, none⟩ = some y ∧ W3.cell? ⟨N + 1, 1, none⟩ = some z := by
  have n : ∀ k, N ≤ k → ¬ AddF bs bm bh v k := fun k hk e => by
    rcases e with rfl | rfl | rfl | e
    · omega
    · omega
    · omega
    · have := hv k e; omega
  exact ⟨(World.cell?_of_block (a := ⟨N, 0, none⟩) (t.block N (by omega) (n N (by omega)))).trans s.1, (World.cell?_of_block (a := ⟨N + 1, 0, none⟩) (t.block (N + 1) hl (n (N + 1) (by omega)))).trans s.2.1, (World.cell?_of_block (a := ⟨N + 1, 1, none⟩) (t.block (N + 1) hl (n (N + 1) (by omega)))).trans s.2.2⟩
theorem err27 (w : World) (D b bk bs bm bh : Nat) (v : Value) (M : List Ms) (s : ByteArray) (st : Nat) (len : Int) (txt : ByteArray) (L : Lg w D b bk bs bm bh v M) (T : TG w b 67 s) (U : Tabs w) (hst : st ≤ s.size) (hsz : s.size ≤ 1048576)
    (hlen : -2147483648 ≤ len ∧ len ≤ 2147483647) (hM : M.length ≤ 1048576) (hD : 2 ≤ D) : Calls Tryf.prog 27 #[logv bk bs bm bh, ptr b 67, rng st len, .string txt] w (ErrP w D b bk bs bm bh v M s len) := by
  have hb2 : 2 ≤ b := by obtain ⟨o0, o1, o2, o3, o4⟩ := L.bl; omega
  have hb := T.lt
  have HL := Lib.hid L
  have HT := Lib.hid T
  have HU := Lib.hid U
  clear L T U
  go_enter Tryf.func27, Tryf.ntmps27
  go_upto_region 1 with fail
  have h0 : Touch (fun _ => False) w ((w.alloc (.cells #[.func (.func 20) #[] #[ptr bk 0, ptr bm 0, ptr bh 0, ptr bs 0], .func (.func 23) #[] #[ptr bm 0, ptr bh 0], .func (.func 24) #[] #[ptr bm 0, ptr bs 0], .func (.func 25) #[] #[ptr bm 0, ptr bs 0], .int .i8 3, .map none] 61)).alloc (.cells #[.int .i32 st, .int .i32 len] 32)) := ((Touch.refl _ w).alloc _).alloc _
  have hx := heap_alloc_new w (.cells #[.func (.func 20) #[] #[ptr bk 0, ptr bm 0, ptr bh 0, ptr bs 0], .func (.func 23) #[] #[ptr bm 0, ptr bh 0], .func (.func 24) #[] #[ptr bm 0, ptr bs 0], .func (.func 25) #[] #[ptr bm 0, ptr bs 0], .int .i8 3, .map none] 61)
  have hx' := (Below.heap_alloc (w.alloc (.cells #[.func (.func 20) #[] #[ptr bk 0, ptr bm 0, ptr bh 0, ptr bs 0], .func (.func 23) #[] #[ptr bm 0, ptr bh 0], .func (.func 24) #[] #[ptr bm 0, ptr bs 0], .func (.func 25) #[] #[ptr bm 0, ptr bs 0], .int .i8 3, .map none] 61)) (.cells #[.int .i32 st, .int .i32 len] 32) w.heap.size (by simp)).trans hx
  have hy := heap_alloc_new (w.alloc (.cells #[.func (.func 20) #[] #[ptr bk 0, ptr bm 0, ptr bh 0, ptr bs 0], .func (.func 23) #[] #[ptr bm 0, ptr bh 0], .func (.func 24) #[] #[ptr bm 0, ptr bs 0], .func (.func 25) #[] #[ptr bm 0, ptr bs 0], .int .i8 3, .map none] 61)) (.cells #[.int .i32 st, .int .i32 len] 32)
  rw [show (w.alloc (.cells #[.func (.func 20) #[] #[ptr bk 0, ptr bm 0, ptr bh 0, ptr bs 0], .func (.func 23) #[] #[ptr bm 0, ptr bh 0], .func (.func 24) #[] #[ptr bm 0, ptr bs 0], .func (.func 25) #[] #[ptr bm 0, ptr bs 0], .int .i8 3, .map none] 61)).heap.size = w.heap.size + 1 by simp] at hy
  have hs1 : ((w.alloc (.cells #[.func (.func 20) #[] #[ptr bk 0, ptr bm 0, ptr bh 0, ptr bs 0], .func (.func 23) #[] #[ptr bm 0, ptr bh 0], .func (.func 24) #[] #[ptr bm 0, ptr bs 0], .func (.func 25) #[] #[ptr bm 0, ptr bs 0], .int .i8 3, .map none] 61)).alloc (.cells #[.int .i32 st, .int .i32 len] 32)).heap.size = w.heap.size + 2 := by simp
  have H0 := Lib.hid h0
  clear hx h0
  generalize ((w.alloc (.cells #[.func (.func 20) #[] #[ptr bk 0, ptr bm 0, ptr bh 0, ptr bs 0], .func (.func 23) #[] #[ptr bm 0, ptr bh 0], .func (.func 24) #[] #[ptr bm 0, ptr bs 0], .func (.func 25) #[] #[ptr bm 0, ptr bs 0], .int .i8 3, .map none] 61)).alloc (.cells #[.int .i32 st, .int .i32 len] 32)) = W1 at *
  have x0 : W1.cell? ⟨w.heap.size, 0, none⟩ = some (.func (.func 20) #[] #[ptr bk 0, ptr bm 0, ptr bh 0, ptr bs 0]) := by rw [cell_of_row W1 _ 0 _ _ _ hx']; rfl
  have y0 : W1.cell? ⟨w.heap.size + 1, 0, none⟩ = some (.int .i32 st) := by rw [cell_of_row W1 _ 0 _ _ _ hy]; rfl
  have y1 : W1.cell? ⟨w.heap.size + 1, 1, none⟩ = some (.int .i32 len) := by rw [cell_of_row W1 _ 1 _ _ _ hy]; rfl
  have X := Lib.hid (And.intro x0 (And.intro y0 y1))
  have hbN : b ≠ w.heap.size := by omega
  have hbN1 : b ≠ w.heap.size + 1 := by omega
  have NE := Lib.hid (And.intro hbN hbN1)
  have S1 := Lib.hid hs1
  have L1 := Lib.hid (HL.out.fresh H0.out)
  have M33 := Lib.hid (show ∀ W, Touch (fun _ => False) W1 W → Calls Tryf.prog 33 #[ptr b 67, rng st len, .string txt] W (MsgP W b 67 s len txt) from fun W t => msg33 W b 67 s st len txt hlen ((HT.out.of_block (H0.out.block b hb id)).of_block (t.block b (Nat.lt_of_lt_of_le hb H0.out.size) id)) hst hsz ((HU.out.touch H0.out id id).touch t id id) hb2)
  have HB := Lib.hid hb
  clear hx' hy hs1 hb
  obtain ⟨N, hN⟩ : ∃ N, w.heap.size = N := ⟨_, rfl⟩
  rw [hN] at x0 y0 y1 X NE S1 HB hbN hbN1
  have EN := Lib.hid hN
  rw [hN]
  clear hN
  have HV := Lib.hid (show ∀ k, v.ownBlock = some k → k < N from fun k h => by have := (HL.out.row.lt k h).2; rw [← EN.out]; exact this)
  have HM := Lib.hid hM
  have HBL := Lib.hid HL.out.bl
  have HLT := Lib.hid (show bk < N ∧ bs < N ∧ bm < N ∧ bh < N from by have := HL.out.lts; rw [EN.out] at this; exact this)
  go_region_held3 (fun w' => w'.cell? ⟨N, 0, none⟩ = some (.func (.func 20) #[] #[ptr bk 0, ptr bm 0, ptr bh 0, ptr bs 0]) ∧ w'.cell? ⟨N + 1, 0, none⟩ = some (.int .i32 st) ∧ w'.cell? ⟨N + 1, 1, none⟩ = some (.int .i32 len)) (first | (go_keep) | (exact S2.out) | (exact S3.out)) (first | (go_at_call 33; refine (M33.out _ (by first | exact Touch.refl _ _ | exact (Touch.refl _ _).drew)).mono ?_; rintro _ W2 ⟨g, rfl, hg, h7, tg, tt⟩; have S2 := Lib.hid (show W2.cell? ⟨N, 0, none⟩ = some (.func (.func 20) #[] #[ptr bk 0, ptr bm 0, ptr bh 0, ptr bs 0]) ∧ W2.cell? ⟨N + 1, 0, none⟩ = some (.int .i32 st) ∧ W2.cell? ⟨N + 1, 1, none⟩ = some (.int .i32 len) from ⟨(World.cell?_of_block (a := ⟨N, 0, none⟩) (tt.t.block N (by have := S1.out; show N < W1.heap.size; omega) (fun e => NE.out.1 e.symm))).trans X.out.1, (World.cell?_of_block (a := ⟨N + 1, 0, none⟩) (tt.t.block (N + 1) (by have := S1.out; show N + 1 < W1.heap.size; omega) (fun e => NE.out.2 e.symm))).trans X.out.2.1, (World.cell?_of_block (a := ⟨N + 1, 1, none⟩) (tt.t.block (N + 1) (by have := S1.out; show N + 1 < W1.heap.size; omega) (fun e => NE.out.2 e.symm))).trans X.out.2.2⟩); have LL := Lib.hid (Lg.tch (L1.out.fresh (by first | exact Touch.refl _ _ | exact (Touch.refl _ _).drew)) tt); have CC := Lib.hid (Tch.trans (Tch.of (o := 67) (H0.out.trans (by first | exact Touch.refl _ _ | exact (Touch.refl _ _).drew)) (by rw [EN.out]; exact HB.out)) tt); have G7 := Lib.hid h7; have TGG := Lib.hid tg; have HGG := Lib.hid (show W1.heap.size ≤ g from hg); clear tt h7 tg hg) | (go_at_call 20; refine (add20 _ D b bk bs bm bh v M ⟨g, txt, len⟩ LL.out HM.out (Nat.lt_of_lt_of_le HB.out (by have := CC.out.t.size; rw [EN.out] at this; exact this)) G7.out (by obtain ⟨o0, o1, o2, o3, o4⟩ := HBL.out; have a1 := HLT.out; have a2 := HGG.out; have a3 := S1.out; have a4 := HB.out; refine ⟨by show D ≤ g; omega, by show g ≠ bs; omega, by show g ≠ bm; omega, by show g ≠ bh; omega, by show g ≠ b; omega, fun e => ?_⟩; have := HV.out g e; omega)).mono ?_; rintro _ W3 ⟨rfl, v', l3, t3, o3⟩; have S3 := Lib.hid (show W3.cell? ⟨N, 0, none⟩ = some (.func (.func 20) #[] #[ptr bk 0, ptr bm 0, ptr bh 0, ptr bs 0]) ∧ W3.cell? ⟨N + 1, 0, none⟩ = some (.int .i32 st) ∧ W3.cell? ⟨N + 1, 1, none⟩ = some (.int .i32 len) from addS t3 (by have := CC.out.t.size; have h2 := S2.out.2.1; exact block_lt_of_cell h2) HLT.out HV.out S2.out); have L3 := Lib.hid l3; have T3 := Lib.hid t3; have O3 := Lib.hid o3; clear l3 t3 o3))
  all_goals
    go_end0
    have hbn : ¬ AddF bs bm bh v b := by
      obtain ⟨o0, o1, o2, o3, o4⟩ := HBL.out
      intro e
      rcases e with e | e | e | e
      · omega
      · omega
      · omega
      · exact (HL.out.far _ e).2.2.2.2 rfl
    have hbw : b < w.heap.size := by rw [EN.out]; exact HB.out
    have hbW : b < W2.heap.size := Nat.lt_of_lt_of_le hbw CC.out.t.size
    have eb := T3.out.block b hbW hbn
    refine ⟨rfl, v', g, txt, L3.out, TGG.out.of_block eb, ⟨(CC.out.t.mono fun _ _ h => Or.inl h).trans (T3.out.mono fun _ _ h => Or.inr h), fun q hq => (World.cell?_of_block (a := ⟨b, q, none⟩) eb).trans (CC.out.c q (by omega)), fun q => (World.frozen?_of_block (a := ⟨b, q, none⟩) eb).trans (CC.out.z q)⟩, fun k hk => ?_⟩
    rcases O3.out k hk with h | h
    · exact Or.inl h
    · exact Or.inr (by have := CC.out.t.size; omega)
end Go.Proofs.YtfnicbfdfceagaaFmt.lg
