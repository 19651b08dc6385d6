/-
  The log is closed, walked: the closure, the harness's wrappers.
-/
import Derived.Test.YtfnicbfdfceagaaFmtLj
import Derived.Test.YtfnicbfdfceagaaFmtLx
namespace Go.Proofs.YtfnicbfdfceagaaFmt.lg
open Go.ChangeShapes Go.WideShapes Go.ChangeAt Go.RowKit Go.Deep Go.MuLone
open Go.Extern.Stop Go.Stop Go.Extern
set_option linter.unusedVariables false
set_option linter.unusedSimpArgs false
set_option maxRecDepth 100000
set_option maxHeartbeats 4000000
theorem done25 (w : World) (D b bk bs bm bh : Nat) (M : List Ms) (v : Value) (l : Lg w D b bk bs bm bh v M) (hn : M.length ≤ 1048576) :
    Calls Tryf.prog 25 #[ptr bm 0, ptr bs 0] w (DoneP w D M) := by
  obtain ⟨g, cap, rfl, hs⟩ := sort_any w D bk bs bm bh b M v l hn
  have HS := Lib.hid hs
  have HL := Lib.hid l
  have c1 := l.mu
  have z1 := l.muz
  have c3 := l.msgs
  have HB := Lib.hid l.bl
  have HT := Lib.hid l.lts
  clear l hs
  go_enter_defers Tryf.func25, Tryf.ntmps25
  go_upto_region 2 with (go_at_call 21; refine (lock_free Tryf.muLib ⟨bm, 0, none⟩ _ (by go_simp) (by go_simp)).mono ?_; rintro _ _ ⟨rfl, rfl⟩)
  have T1 := Lib.hid (show Touch (fun k => k = bm) w (w.setCell ⟨bm, 0, none⟩ (.int .i32 1)) from (Touch.refl (fun k => k = bm) w).setCell ⟨bm, 0, none⟩ (fun _ => rfl) _)
  have m1 : (w.setCell ⟨bm, 0, none⟩ (.int .i32 1)).cell? ⟨bm, 0, none⟩ = some (.int .i32 1) := World.cell?_setCell_same _ _ _ c1
  have y1 : (w.setCell ⟨bm, 0, none⟩ (.int .i32 1)).frozen? ⟨bm, 0, none⟩ = false := by rw [World.frozen?_setCell]; exact z1
  have b1 : (w.setCell ⟨bm, 0, none⟩ (.int .i32 1)).cell? ⟨bs, 0, none⟩ = some (.slice g M.length cap) := (World.cell?_setCell_other _ _ _ _ (by simp; have := HB.out.o2; omega)).trans c3
  clear c1 z1 c3
  generalize (w.setCell ⟨bm, 0, none⟩ (.int .i32 1)) = W1 at *
  have HM := Lib.hid (And.intro m1 y1)
  go_wp2_with (go_at_call 26; refine (HS.out _ T1.out).mono ?_; rintro _ W2 ⟨rfl, q⟩; have Q := Lib.hid q; clear q; have b2 : W2.cell? ⟨bs, 0, none⟩ = some (.slice g M.length cap) := (World.cell?_of_block (a := ⟨bs, 0, none⟩) (Q.out.2.2.1 bs (by have := T1.out.size; have := HT.out.2.1; omega) (fun e => (HL.out.far bs (by cases g <;> simp_all [Value.ownBlock])).2.1 rfl))).trans b1)
  have nb : ∀ q, (Value.slice g M.length q).ownBlock ≠ some bm := fun q e => (HL.out.far bm (by cases g <;> simp_all [Value.ownBlock])).2.2.1 rfl
  have e2 : W2.heap[bm]? = W1.heap[bm]? := Q.out.2.2.1 bm (by have := T1.out.size; have := HT.out.2.2.1; omega) (nb 0)
  have m2 : W2.cell? ⟨bm, 0, none⟩ = some (.int .i32 1) := (World.cell?_of_block (a := ⟨bm, 0, none⟩) e2).trans HM.out.1
  have y2 : W2.frozen? ⟨bm, 0, none⟩ = false := (World.frozen?_of_block (a := ⟨bm, 0, none⟩) e2).trans HM.out.2
  refine leaves_cons (f := 22) (args := #[.pointer (some ⟨bm, 0, none⟩)]) (by simp) (by simp [go_sem]) ?_
  refine (unlock_deferred Tryf.muLib ⟨bm, 0, none⟩ .returning _ m2 y2).mono ?_
  rintro e u' w'' ⟨rfl, rfl, rfl⟩
  refine ⟨_, results_tmp rfl _ _ _, ?_⟩
  obtain ⟨M', hp, r⟩ := Q.out.2.2.2
  obtain ⟨o0, o1, o2, o3, o4⟩ := HB.out
  have far : ∀ j, j ≠ bm → (W2.setCell ⟨bm, 0, none⟩ (.int .i32 0)).heap[j]? = W2.heap[j]? := fun j h => Below.heap_setCell _ _ _ _ h
  refine ⟨g, cap, M', rfl, hp, ⟨fun hne => ?_, fun m hm => ?_⟩, ?_⟩
  · obtain ⟨rb, hg, hd, R⟩ := r.row hne
    refine ⟨rb, hg, hd, R.of_block (far rb (fun h => nb 0 ?_))⟩
    rw [hg, h]; rfl
  · obtain ⟨h1, h2⟩ := r.loc m hm
    exact ⟨h1.of_block (far m.g (HL.out.loc m (hp.mem_iff.1 hm)).2.2.2.1), h2⟩
  · have t1 : Below D w W1 := T1.out.below (by have := HT.out; omega) (fun k hk => by omega)
    exact (t1.trans Q.out.1).setCell (p := ⟨bm, 0, none⟩) (by show D ≤ bm; omega) _
theorem done14 (w : World) (D b bk bs bm bh : Nat) (M : List Ms) (s : ByteArray) (L : PL w D b bk bs bm bh s M) (hn : M.length ≤ 1048576) : Calls Tryf.prog 14 #[ptr b 0] w (DoneP w D M) := by
  obtain ⟨v, l⟩ := L.lg
  have c54 := L.pc.c54
  have HD := Lib.hid (fun W (t : Touch (fun _ => False) w W) => done25 W D b bk bs bm bh M v (l.fresh t) hn)
  clear l
  clear L
  go_enter Tryf.func14, Tryf.ntmps14
  go_wp2_with (go_at_call 25; refine (HD.out _ (by first | exact Touch.refl _ _ | exact (Touch.refl _ _).drew)).mono ?_; rintro _ W2 ⟨g, cap, M', rfl, q⟩; have Q := Lib.hid q; clear q)
  go_ret
  exact ⟨g, cap, M', rfl, Q.out⟩
theorem arrow12 (w : World) (D b bk bs bm bh d rp : Nat) (M : List Ms) (s : ByteArray) (ps : List (Nat × Int)) (cap : Nat) (L : PL w D b bk bs bm bh s M) (U : Tabs w) (hsz : s.size ≤ 1048576) (hD : 2 ≤ D)
    (hd : w.cell? ⟨d, 6, none⟩ = some (.slice (some ⟨rp, 0, none⟩) ps.length cap)) (hdD : d < D) (hrD : rp < D) (hps : Rngs w rp ps) (hgood : ∀ p ∈ ps, p.1 ≤ s.size ∧ -2147483648 ≤ p.2 ∧ p.2 ≤ 2147483647)
    (hM : M.length + ps.length ≤ 1048576) : Calls Tryf.prog 12 #[ptr b 0, ptr d 0] w (ArrP w D b bk bs bm bh M s ps) := by
  have HA := Lib.hid (arrow18 w D b bk bs bm bh d rp M s ps cap L U hsz hD hd hdD hrD hps hgood hM)
  clear L U hps hgood hd
  go_enter Tryf.func12, Tryf.ntmps12
  go_wp2_with (go_at_call 18; refine HA.out.mono ?_; rintro _ W2 ⟨rfl, q⟩; have Q := Lib.hid q; clear q)
  go_end0
  exact ⟨rfl, Q.out⟩
theorem expr11 (F : Interp) (w : World) (hF : F.answers w.tape) (D b bk bs bm bh d : Nat) (M : List Ms) (s : ByteArray) (dS dL aS aL : Int) (L : PL w D b bk bs bm bh s M) (U : Tabs w) (hsz : s.size ≤ 1048576) (hD : 2 ≤ D)
    (hd : De w d dS dL aS aL) (hdD : d < D) (h1 : Fits dS dL s.size) (h2 : Fits aS aL s.size) (hM : M.length ≤ 1000000) : Calls Tryf.prog 11 #[ptr b 0, ptr d 0] w (LogP w D b bk bs bm bh M s (one dL ++ one aL)) := by
  have HA := Lib.hid (expr17 F w hF D b bk bs bm bh d M s dS dL aS aL L U hsz hD hd hdD h1 h2 hM)
  clear L U h1 h2 hd hF
  go_enter Tryf.func11, Tryf.ntmps11
  go_wp2_with (go_at_call 17; refine HA.out.mono ?_; rintro _ W2 ⟨rfl, q⟩; have Q := Lib.hid q; clear q)
  go_end0
  exact ⟨rfl, Q.out⟩
end Go.Proofs.YtfnicbfdfceagaaFmt.lg
