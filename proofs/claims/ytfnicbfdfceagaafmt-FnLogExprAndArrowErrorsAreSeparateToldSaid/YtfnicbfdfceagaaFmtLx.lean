/-
  The expression errors are logged, walked.
-/
import Derived.Test.YtfnicbfdfceagaaFmtLf
import Derived.Test.YtfnicbfdfceagaaFmtFm
namespace Go.Proofs.YtfnicbfdfceagaaFmt.lg
open Go.ChangeShapes Go.WideShapes Go.ChangeAt Go.RowKit Go.Deep Go.MuLone
open Go.Extern.Stop Go.Stop Go.Extern
set_option linter.unusedVariables false
set_option linter.unusedSimpArgs false
set_option maxRecDepth 100000
set_option maxHeartbeats 4000000
def one (l : Int) : List Int := if 0 < l then [l] else []
/-- The errors' cells that are read. -/
structure De (w : World) (d : Nat) (dS dL aS aL : Int) : Prop where
  c0 : w.cell? ⟨d, 0, none⟩ = some (.int .i32 dS)
  c1 : w.cell? ⟨d, 1, none⟩ = some (.int .i32 dL)
  c2 : w.cell? ⟨d, 2, none⟩ = some (.int .i32 aS)
  c3 : w.cell? ⟨d, 3, none⟩ = some (.int .i32 aL)
  c5 : w.cell? ⟨d, 5, none⟩ = some (.int .i32 0)
theorem De.below {w w' : World} {d D : Nat} {dS dL aS aL : Int} (h : De w d dS dL aS aL) (hb : Below D w w') (hd : d < D) : De w' d dS dL aS aL :=
  ⟨(hb.cell (p := ⟨d, 0, none⟩) hd).trans h.c0, (hb.cell (p := ⟨d, 1, none⟩) hd).trans h.c1, (hb.cell (p := ⟨d, 2, none⟩) hd).trans h.c2, (hb.cell (p := ⟨d, 3, none⟩) hd).trans h.c3, (hb.cell (p := ⟨d, 5, none⟩) hd).trans h.c5⟩
def Fits (l n size : Int) : Prop := -2147483648 ≤ n ∧ n ≤ 2147483647 ∧ (0 < n → 0 ≤ l ∧ l + n ≤ size)
def LogP (w : World) (D b bk bs bm bh : Nat) (M : List Ms) (s : ByteArray) (ls : List Int) (e : Ending) (w' : World) : Prop :=
  e = .returned (.tuple #[]) ∧ ∃ N, N.map Ms.len = ls ∧ PL w' D b bk bs bm bh s (M ++ N) ∧ Below D w w'
/-- Behind the first half. -/
def Mid (w : World) (D b bk bs bm bh : Nat) (M : List Ms) (s : ByteArray) (dL : Int) (wx : World) : Prop := ∃ N, N.map Ms.len = one dL ∧ PL wx D b bk bs bm bh s (M ++ N) ∧ Below D w wx
theorem n0keep {W1 W3 : World} {D b bk bs bm bh N0 : Nat} {M : List Ms} {s : ByteArray} {o : Obj} {cs : Array Value} (hy : W1.heap[N0]? = some (.cells cs 32)) (hn : N0 < W1.heap.size) (pp : PL (W1.alloc o).drew.drew D b bk bs bm bh s M) (hb : b ≠ N0) (h : bs < N0 ∧ bm < N0 ∧ bh < N0)
    (fr : ∀ j, j < (W1.alloc o).drew.drew.heap.size → j ≠ b → j ≠ bs → j ≠ bm → j ≠ bh → (∀ v, Lg (W1.alloc o).drew.drew D b bk bs bm bh v M → v.ownBlock ≠ some j) → W3.heap[j]? = (W1.alloc o).drew.drew.heap[j]?) (q : Nat) (u : Value) (hu : W1.cell? ⟨N0, q, none⟩ = some u) : W3.cell? ⟨N0, q, none⟩ = some u := by
  have e1 : (W1.alloc o).drew.drew.heap[N0]? = W1.heap[N0]? := Below.heap_alloc _ _ _ hn
  have e2 := fr N0 (by show N0 < (W1.alloc o).heap.size; simp; omega) (fun e => hb e.symm) (by omega) (by omega) (by omega) (fun v l e => by
    rcases l.row.2 with ⟨rfl, _⟩ | ⟨g, cap, cur, rfl, hb, hh, r⟩
    · simp [Value.ownBlock] at e
    · simp [Value.ownBlock] at e
      subst e
      rw [e1, hy] at hh
      cases hh)
  exact (World.cell?_of_block (a := ⟨N0, q, none⟩) (e2.trans e1)).trans hu
theorem expr17 (F : Interp) (w : World) (hF : F.answers w.tape) (D b bk bs bm bh d : Nat) (M : List Ms) (s : ByteArray) (dS dL aS aL : Int) (L : PL w D b bk bs bm bh s M) (U : Tabs w) (hsz : s.size ≤ 1048576) (hD : 2 ≤ D)
    (hd : De w d dS dL aS aL) (hdD : d < D) (h1 : Fits dS dL s.size) (h2 : Fits aS aL s.size) (hM : M.length ≤ 1000000) : Calls Tryf.prog 17 #[ptr b 0, ptr d 0] w (LogP w D b bk bs bm bh M s (one dL ++ one aL)) := by
  have HL := Lib.hid L
  have HU := Lib.hid U
  have HF := Lib.hid hF
  have HD := Lib.hid hd
  have hDs : D ≤ w.heap.size := by have := L.tg.lt; obtain ⟨o0, o1, o2, o3, o4⟩ := L.bl; omega
  obtain ⟨e0, e1, e2, e3, e5⟩ := hd
  have tabs : ∀ W, Below D w W → Tabs W := fun W hb => by
    have t : Touch (fun j => D ≤ j) w W := ⟨hb.os, hb.tape, hb.output, hb.size, fun k _ hn => hb.block k (by omega)⟩
    exact HU.out.touch t (by omega) (by omega)
  have HTB := Lib.hid tabs
  clear tabs U hF L
  have C0 := Lib.hid (show ((Mid w D b bk bs bm bh M s dL w) ∨ 0 < dL) from by
    by_cases h : 0 < dL
    · exact Or.inr h
    · exact Or.inl ⟨[], by unfold one; rw [if_neg h]; rfl, by rw [List.append_nil]; exact HL.out, Below.refl _ _⟩)
  go_enter Tryf.func17, Tryf.ntmps17
  go_upto_if 10 with fail
  go_cut [22] (fun v22 wx => Mid w D b bk bs bm bh M s dL wx)
  case first =>
    by_cases h1n : 0 < dL
    · obtain ⟨n, rfl⟩ : ∃ n : Nat, dS = n := Int.eq_ofNat_of_zero_le (h1.2.2 h1n).1
      have hn : n ≤ s.size := by have := (h1.2.2 h1n).2; omega
      obtain ⟨k1, k2, k3, k4, k5, k6, k7⟩ := HL.out.pc
      go_upto_region 1 with fail
      go_still_tail 11, (by kernel_rfl)
      change wpList _ _ _ _ _ w.drew
      clear k1 k2 k3 k4 k5 k6 k7
      go_wp2_with (go_at_call 27; refine (errQ w.drew D b bk bs bm bh M s n dL _ (HL.out.fresh (Touch.refl _ w).drew) (HTB.out _ (Below.refl D w).drew) hn hsz ⟨h1.1, h1.2.1⟩ (by omega) hD).mono ?_; rintro _ W3 ⟨rfl, m, hm, pl3, bl3, -⟩; have P3 := Lib.hid pl3; have B3 := Lib.hid bl3; have M3 := Lib.hid hm; clear pl3 bl3 hm)
      go_meet
      exact ⟨[m], by unfold one; rw [if_pos h1n]; simp [M3.out], P3.out, (Below.refl D w).drew.trans B3.out⟩
    · go_wp2_with fail
      go_meet
      exact C0.out.resolve_right (by omega)
  case rest =>
    obtain ⟨N1, hN1, hp1, hb1⟩ := hcut
    have De2 := HD.out.below hb1 hdD
    have hN1l : N1.length ≤ 1 := by
      have h := congrArg List.length hN1
      rw [List.length_map] at h
      rw [h]; unfold one; split <;> simp
    obtain ⟨-, -, e2', e3', e5'⟩ := De2
    have HP1 := Lib.hid hp1
    have HB1 := Lib.hid hb1
    have HN1 := Lib.hid hN1
    clear e0 e1 e2 e3 e5 hp1 hb1 hN1
    have hdW : d < wc.heap.size := block_lt_of_cell e2'
    have hd0 : D ≤ wc.heap.size := Nat.le_trans hDs HB1.out.size
    by_cases h2n : 0 < aL
    · obtain ⟨n2, rfl⟩ : ∃ n : Nat, aS = n := Int.eq_ofNat_of_zero_le (h2.2.2 h2n).1
      obtain ⟨l2, rfl⟩ : ∃ n : Nat, aL = n := Int.eq_ofNat_of_zero_le (by omega)
      have hn2 : (n2 : Int) + l2 ≤ s.size := (h2.2.2 h2n).2
      have hn2' : (n2 : Int) + (l2 : Int) ≤ 1048576 := by omega
      have hle2 : n2 ≤ s.size := by omega
      have HW := Lib.hid (IntWalk.i32_in ((n2 : Int) + l2) ⟨by omega, by omega⟩)
      have HQ := Lib.hid (show 0 ≤ (n2 : Int) + l2 ∧ (n2 : Int) ≤ (n2 : Int) + l2 ∧ (n2 : Int) + l2 ≤ s.size from ⟨by omega, by omega, hn2⟩)
      obtain ⟨tx, hex⟩ : ∃ tx, s.extract n2 ((n2 : Int) + l2).toNat = tx := ⟨_, rfl⟩
      clear hn2 hn2'
      go_upto_region 4 with fail
      have PW0 := HP1.out.fresh ((Touch.refl (fun _ => False) wc).alloc (.cells #[.int .i32 (n2 : Nat), .int .i32 (l2 : Int)] 32))
      have B0 := Lib.hid (HB1.out.alloc hd0 (.cells #[.int .i32 (n2 : Nat), .int .i32 (l2 : Int)] 32))
      have hy := heap_alloc_new wc (.cells #[.int .i32 (n2 : Nat), .int .i32 (l2 : Int)] 32)
      have hNz := Lib.hid (show (wc.alloc (.cells #[.int .i32 (n2 : Nat), .int .i32 (l2 : Int)] 32)).heap.size = wc.heap.size + 1 by simp)
      have e5 : (wc.alloc (.cells #[.int .i32 (n2 : Nat), .int .i32 (l2 : Int)] 32)).cell? ⟨d, 5, none⟩ = some (.int .i32 0) := (World.cell?_of_block (a := ⟨d, 5, none⟩) (Below.heap_alloc _ _ _ hdW)).trans e5'
      have hbW : b < wc.heap.size := HP1.out.tg.lt
      clear e5' e2' e3'
      generalize wc.heap.size = N0 at *
      generalize wc.alloc (.cells #[.int .i32 (n2 : Nat), .int .i32 (l2 : Int)] 32) = W1 at *
      have y0 : W1.cell? ⟨N0, 0, none⟩ = some (.int .i32 (n2 : Nat)) := by rw [cell_of_row W1 _ 0 _ _ _ hy]; rfl
      have y1 : W1.cell? ⟨N0, 1, none⟩ = some (.int .i32 (l2 : Int)) := by rw [cell_of_row W1 _ 1 _ _ _ hy]; rfl
      obtain ⟨k1, k2, k3, k4, k5, k6, k7⟩ := PW0.pc
      have PP := Lib.hid PW0
      have hF1 : F.answers W1.tape := by rw [B0.out.tape]; exact HF.out
      have hF' := answers_open hF1
      have E5 := Lib.hid e5
      have HY := Lib.hid hy
      have HNB := Lib.hid (show b ≠ N0 from by omega)
      have HNG := Lib.hid (show N0 < W1.heap.size from by rw [hNz.out]; omega)
      have HDW := Lib.hid hdW
      have PP2 := Lib.hid (PW0.fresh (show Touch (fun _ => False) W1 ((W1.alloc (.cells #[.iface 9 (.string tx)] 20)).drew.drew) from (((Touch.refl _ W1).alloc _).drew).drew))
      have HN0 := Lib.hid (show bs < N0 ∧ bm < N0 ∧ bh < N0 from by obtain ⟨o0, o1, o2, o3, o4⟩ := HP1.out.bl; omega)
      have hd1 : D ≤ W1.heap.size := by rw [hNz.out]; omega
      have BB2 := Lib.hid (show Below D w ((W1.alloc (.cells #[.iface 9 (.string tx)] 20)).drew.drew) from ((B0.out.alloc hd1 _).drew).drew)
      have UU2 := Lib.hid (HTB.out _ BB2.out)
      have KK := Lib.hid (show W1.cell? ⟨b, 51, none⟩ = some (.func (.func 20) #[] #[ptr bk 0, ptr bm 0, ptr bh 0, ptr bs 0]) ∧ W1.cell? ⟨b, 52, none⟩ = some (.func (.func 23) #[] #[ptr bm 0, ptr bh 0]) ∧ W1.cell? ⟨b, 53, none⟩ = some (.func (.func 24) #[] #[ptr bm 0, ptr bs 0]) ∧ W1.cell? ⟨b, 54, none⟩ = some (.func (.func 25) #[] #[ptr bm 0, ptr bs 0]) ∧ W1.cell? ⟨b, 55, none⟩ = some (.int .i8 3) ∧ W1.cell? ⟨b, 56, none⟩ = some (.map none) ∧ W1.cell? ⟨b, 60, none⟩ = some (.string s) ∧ W1.cell? ⟨N0, 0, none⟩ = some (.int .i32 (n2 : Nat)) ∧ W1.cell? ⟨N0, 1, none⟩ = some (.int .i32 (l2 : Int)) from ⟨k1, k2, k3, k4, k5, k6, k7, y0, y1⟩)
      have kb : (W1.alloc (.cells #[.iface 9 (.string tx)] 20)).heap[b]? = W1.heap[b]? := Below.heap_alloc _ _ _ (block_lt_of_cell k1)
      have kn : (W1.alloc (.cells #[.iface 9 (.string tx)] 20)).heap[N0]? = W1.heap[N0]? := Below.heap_alloc _ _ _ (block_lt_of_cell y0)
      have KA := Lib.hid (show (W1.alloc (.cells #[.iface 9 (.string tx)] 20)).cell? ⟨b, 51, none⟩ = some (.func (.func 20) #[] #[ptr bk 0, ptr bm 0, ptr bh 0, ptr bs 0]) ∧ (W1.alloc (.cells #[.iface 9 (.string tx)] 20)).cell? ⟨b, 52, none⟩ = some (.func (.func 23) #[] #[ptr bm 0, ptr bh 0]) ∧ (W1.alloc (.cells #[.iface 9 (.string tx)] 20)).cell? ⟨b, 53, none⟩ = some (.func (.func 24) #[] #[ptr bm 0, ptr bs 0]) ∧ (W1.alloc (.cells #[.iface 9 (.string tx)] 20)).cell? ⟨b, 54, none⟩ = some (.func (.func 25) #[] #[ptr bm 0, ptr bs 0]) ∧ (W1.alloc (.cells #[.iface 9 (.string tx)] 20)).cell? ⟨b, 55, none⟩ = some (.int .i8 3) ∧ (W1.alloc (.cells #[.iface 9 (.string tx)] 20)).cell? ⟨b, 56, none⟩ = some (.map none) ∧ (W1.alloc (.cells #[.iface 9 (.string tx)] 20)).cell? ⟨b, 60, none⟩ = some (.string s) ∧ (W1.alloc (.cells #[.iface 9 (.string tx)] 20)).cell? ⟨N0, 0, none⟩ = some (.int .i32 (n2 : Nat)) ∧ (W1.alloc (.cells #[.iface 9 (.string tx)] 20)).cell? ⟨N0, 1, none⟩ = some (.int .i32 (l2 : Int)) from ⟨(World.cell?_of_block (a := ⟨b, 51, none⟩) kb).trans k1, (World.cell?_of_block (a := ⟨b, 52, none⟩) kb).trans k2, (World.cell?_of_block (a := ⟨b, 53, none⟩) kb).trans k3, (World.cell?_of_block (a := ⟨b, 54, none⟩) kb).trans k4, (World.cell?_of_block (a := ⟨b, 55, none⟩) kb).trans k5, (World.cell?_of_block (a := ⟨b, 56, none⟩) kb).trans k6, (World.cell?_of_block (a := ⟨b, 60, none⟩) kb).trans k7, (World.cell?_of_block (a := ⟨N0, 0, none⟩) kn).trans y0, (World.cell?_of_block (a := ⟨N0, 1, none⟩) kn).trans y1⟩)
      clear kb kn
      clear hy PW0 hF1 e5 hbW hdW
      have hw := HW.out
      have hq := HQ.out.1
      have hq2 := HQ.out.2.1
      have hq3 := HQ.out.2.2
      go_region_held3 (fun w' => w'.cell? ⟨b, 51, none⟩ = some (.func (.func 20) #[] #[ptr bk 0, ptr bm 0, ptr bh 0, ptr bs 0]) ∧ w'.cell? ⟨b, 52, none⟩ = some (.func (.func 23) #[] #[ptr bm 0, ptr bh 0]) ∧ w'.cell? ⟨b, 53, none⟩ = some (.func (.func 24) #[] #[ptr bm 0, ptr bs 0]) ∧ w'.cell? ⟨b, 54, none⟩ = some (.func (.func 25) #[] #[ptr bm 0, ptr bs 0]) ∧ w'.cell? ⟨b, 55, none⟩ = some (.int .i8 3) ∧ w'.cell? ⟨b, 56, none⟩ = some (.map none) ∧ w'.cell? ⟨b, 60, none⟩ = some (.string s) ∧ w'.cell? ⟨N0, 0, none⟩ = some (.int .i32 (n2 : Nat)) ∧ w'.cell? ⟨N0, 1, none⟩ = some (.int .i32 (l2 : Int))) (first | (exact KK.out) | (exact KA.out) | (exact S3.out) | (go_keep)) ((go_at_call 27; (refine (errQ ((W1.alloc (.cells #[.iface 9 (.string tx)] 20)).drew.drew) D b bk bs bm bh (M ++ N1) s n2 (l2 : Int) _ PP2.out UU2.out hle2 hsz ⟨h2.1, h2.2.1⟩ (by simp; omega) hD).mono ?_; rintro _ W3 ⟨rfl, m, hm, pl3, bl3, fr3⟩; have S3 := Lib.hid (show W3.cell? ⟨b, 51, none⟩ = some (.func (.func 20) #[] #[ptr bk 0, ptr bm 0, ptr bh 0, ptr bs 0]) ∧ W3.cell? ⟨b, 52, none⟩ = some (.func (.func 23) #[] #[ptr bm 0, ptr bh 0]) ∧ W3.cell? ⟨b, 53, none⟩ = some (.func (.func 24) #[] #[ptr bm 0, ptr bs 0]) ∧ W3.cell? ⟨b, 54, none⟩ = some (.func (.func 25) #[] #[ptr bm 0, ptr bs 0]) ∧ W3.cell? ⟨b, 55, none⟩ = some (.int .i8 3) ∧ W3.cell? ⟨b, 56, none⟩ = some (.map none) ∧ W3.cell? ⟨b, 60, none⟩ = some (.string s) ∧ W3.cell? ⟨N0, 0, none⟩ = some (.int .i32 (n2 : Nat)) ∧ W3.cell? ⟨N0, 1, none⟩ = some (.int .i32 (l2 : Int)) from ⟨pl3.pc.c51, pl3.pc.c52, pl3.pc.c53, pl3.pc.c54, pl3.pc.c55, pl3.pc.c56, pl3.pc.c60, n0keep HY.out HNG.out PP2.out HNB.out HN0.out fr3 _ _ y0, n0keep HY.out HNG.out PP2.out HNB.out HN0.out fr3 _ _ y1⟩); have P3 := Lib.hid pl3; have B3 := Lib.hid bl3; have M3 := Lib.hid hm; clear pl3 bl3 hm fr3)))
      all_goals
        have e5 : W3.cell? ⟨d, 5, none⟩ = some (.int .i32 0) := (B3.out.cell (p := ⟨d, 5, none⟩) hdD).trans ((World.cell?_of_block (a := ⟨d, 5, none⟩) (Below.heap_alloc _ _ _ (block_lt_of_cell E5.out))).trans E5.out)
        have BF := Lib.hid (BB2.out.trans B3.out)
        clear k1 k2 k3 k4 k5 k6 k7 y0 y1
        go_wp2_with fail
        go_end0
        exact ⟨rfl, N1 ++ [m], by rw [List.map_append, HN1.out]; unfold one; rw [if_pos h2n]; simp [M3.out], by rw [← List.append_assoc]; exact P3.out, BF.out⟩
    · go_wp2_with fail
      go_end0
      exact ⟨rfl, N1, by rw [HN1.out]; unfold one; rw [if_neg (show ¬ 0 < aL by omega)]; simp, HP1.out, HB1.out⟩
end Go.Proofs.YtfnicbfdfceagaaFmt.lg
