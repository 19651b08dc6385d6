/-
  The typo detector of one word is made.
-/
import Derived.Test.YthmakfnceliciaaVf
import Derived.Deep.RegionLaw

namespace Go.Proofs.Ythmakfnceliciaa.ty
open Go.ChangeShapes Go.WideShapes Go.ChangeAt Go.RowKit Go.Deep Go.Proofs.Ythmakfnceliciaa.mk Go.Proofs.Ythmakfnceliciaa.u8
set_option linter.unusedVariables false
set_option linter.unusedSimpArgs false
set_option maxRecDepth 100000
set_option maxHeartbeats 4000000
/-- What the map of one word holds after t code points. -/
noncomputable def mm (s : ByteArray) : Nat → Value → Option Value
  | 0 => fun _ => none
  | t + 1 => upd (mm s t) (.string (cut s (pl s t) (Utf8.decode s (pl s t)).2)) (.string s)
theorem mm_val {s : ByteArray} : ∀ (t : Nat) (k : ByteArray) (v : Value), mm s t (.string k) = some v → v = .string s := by
  intro t
  induction t with
  | zero => intro k v h; cases h
  | succ t ih =>
    intro k v h
    simp only [mm, upd] at h
    split at h
    · cases h; rfl
    · exact ih k v h
theorem mm_has {s : ByteArray} : ∀ (t u : Nat), u < t → gh (mm s t) (cut s (pl s u) (Utf8.decode s (pl s u)).2) = true := by
  intro t
  induction t with
  | zero => intro u h; omega
  | succ t ih =>
    intro u h
    unfold gh
    simp only [mm, upd]
    split
    · rfl
    · rename_i hne
      have : u ≠ t := fun e => hne (by rw [e])
      exact ih u (by omega)
/-- What is held while the word is walked over. -/
structure Lm (w wr : World) (s : ByteArray) (pos N : Nat) (M : Value → Option Value) : Prop where
  it : wr.heap[w.heap.size + 3]? = some (.stringIter s pos)
  b0 : wr.heap[w.heap.size]? = some (.cells #[.map none] 28 (0, 0))
  b2 : wr.heap[w.heap.size + 2]? = some (.cells #[.map (some (w.heap.size + 1))] 28 (0, 0))
  mp : MapIs wr (w.heap.size + 1) StrKey N M
  bel : Below w.heap.size w wr
theorem Lm.next {w wr : World} {s : ByteArray} {pos N : Nat} {M : Value → Option Value} (h : Lm w wr s pos N M) (p : Nat) : Lm w (wr.iterAt (w.heap.size + 3) s p) s p N M :=
  ⟨Lib.iterAt_heap wr _ s pos p h.it, (Lib.iterAt_other wr (w.heap.size + 3) w.heap.size s p (by omega)).trans h.b0, (Lib.iterAt_other wr (w.heap.size + 3) _ s p (by omega)).trans h.b2, h.mp.of_block (Lib.iterAt_other wr (w.heap.size + 3) _ s p (by omega)), Lib.below_iterAt h.bel (by omega) s p⟩
theorem Lm.put {w wr w' : World} {s : ByteArray} {pos N N' : Nat} {M M' : Value → Option Value} (h : Lm w wr s pos N M) (hm : MapIs w' (w.heap.size + 1) StrKey N' M') (ho : OnlyB (w.heap.size + 1) wr w') : Lm w w' s pos N' M' :=
  ⟨(ho.block _ (by omega)).trans h.it, (ho.block _ (by omega)).trans h.b0, (ho.block _ (by omega)).trans h.b2, hm, h.bel.trans (ho.below (by omega))⟩
theorem Lm.drewN {w wr : World} {s : ByteArray} {pos N : Nat} {M : Value → Option Value} (h : Lm w wr s pos N M) (n : Nat) : Lm w (wr.drewN n) s pos N M :=
  ⟨by simpa using h.it, by simpa using h.b0, by simpa using h.b2, h.mp.of_block (by simp), ⟨h.bel.os, h.bel.tape, h.bel.output, h.bel.size, h.bel.block⟩⟩
def Dn (w : World) (s : ByteArray) (wr : World) : Prop := ∃ N T pos, Lm w wr s pos N (mm s T) ∧ s.size ≤ pl s T
def Mk1 (w : World) (s : ByteArray) (e : Ending) (w' : World) : Prop := ∃ B N T, e = .returned (.agg #[.map (some B)]) ∧ MapIs w' B StrKey N (mm s T) ∧ s.size ≤ pl s T ∧ Below w.heap.size w w' ∧ B < w'.heap.size
theorem make1 (w : World) (b off cap : Nat) (s : ByteArray) (hc : w.cell? ⟨b, off, none⟩ = some (.string s)) (h3 : 3 < s.size) (h4 : s.size ≤ 4096) (hv : VS s) : Calls Try.prog 9 #[.slice (some ⟨b, off, none⟩) 1 cap] w (Mk1 w s) := by
  have HV := Lib.hid hv
  clear hv
  have hbl : b < w.heap.size := block_lt_of_cell hc
  have hmm := @run_makeMap Try.prog
  have HC := Lib.hid hc
  clear hc
  go_enter Try.func9, Try.ntmps9
  go_upto_region 3 with (fail)
  clear hmm
  have hB0 : Below w.heap.size w (((w.alloc (.cells #[.map none] 28)).alloc (.map #[] 0)).alloc (.cells #[.map (some (w.heap.size + 1))] 28)) := (((Below.refl _ _).alloc (Nat.le_refl _) _).alloc (by simp) _).alloc (by simp; omega) _
  have hz : (((w.alloc (.cells #[.map none] 28)).alloc (.map #[] 0)).alloc (.cells #[.map (some (w.heap.size + 1))] 28)).heap.size = w.heap.size + 3 := by simp
  have e0 : (((w.alloc (.cells #[.map none] 28)).alloc (.map #[] 0)).alloc (.cells #[.map (some (w.heap.size + 1))] 28)).heap[w.heap.size]? = some (.cells #[.map none] 28 (0, 0)) := (heap_alloc_old _ _ (by simp; omega)).trans (heap_alloc2_old ..)
  have e1 : MapIs (((w.alloc (.cells #[.map none] 28)).alloc (.map #[] 0)).alloc (.cells #[.map (some (w.heap.size + 1))] 28)) (w.heap.size + 1) StrKey 0 (mm s 0) := by
    have h : MapIs (((w.alloc (.cells #[.map none] 28)).alloc (.map #[] 0)).alloc (.cells #[.map (some (w.heap.size + 1))] 28)) (w.alloc (.cells #[.map none] 28)).heap.size StrKey 0 (mm s 0) := (MapIs.made (w.alloc (.cells #[.map none] 28)) StrKey).alloc (.cells #[.map (some (w.heap.size + 1))] 28)
    simpa using h
  have e2 : (((w.alloc (.cells #[.map none] 28)).alloc (.map #[] 0)).alloc (.cells #[.map (some (w.heap.size + 1))] 28)).heap[w.heap.size + 2]? = some (.cells #[.map (some (w.heap.size + 1))] 28 (0, 0)) := by
    have h := heap_alloc_new ((w.alloc (.cells #[.map none] 28)).alloc (.map #[] 0)) (.cells #[.map (some (w.heap.size + 1))] 28)
    simpa using h
  have c1 : (((w.alloc (.cells #[.map none] 28)).alloc (.map #[] 0)).alloc (.cells #[.map (some (w.heap.size + 1))] 28)).cell? ⟨b, off, none⟩ = some (.string s) := (hB0.cell (p := ⟨b, off, none⟩) hbl).trans HC.out
  have C1 := Lib.hid c1
  have HB0 := Lib.hid hB0
  have HZ := Lib.hid hz
  have E0 := Lib.hid e0
  have E1 := Lib.hid e1
  have E2 := Lib.hid e2
  clear hB0 hz e0 e1 e2 c1 HC
  generalize (((w.alloc (.cells #[.map none] 28)).alloc (.map #[] 0)).alloc (.cells #[.map (some (w.heap.size + 1))] 28)) = w0 at *
  go_loopw [12] (fun i wr => (i = .int .i64 0 ∧ w0 = wr) ∨ (i = .int .i64 1 ∧ Dn w s wr)) (fun i _ => 1 - (intOf i).toNat)
  case atStart => exact .inl ⟨rfl, rfl⟩
  case round =>
    rcases hrel with ⟨rfl, rfl⟩ | ⟨rfl, hdn⟩
    · have c1 := C1.out
      have d3 : decide ((3 : Int) < (s.size : Int)) = true := by simp; omega
      have H3 := Lib.hid h3
      clear h3
      go_wp2_with fail
      clear d3
      have hst : Lm w (w0.iter s 0) s 0 0 (mm s 0) := by
        have hb := (Below.refl w0.heap.size w0).alloc (Nat.le_refl _) (.stringIter s 0)
        have hz := HZ.out
        refine ⟨?_, (hb.block _ (by omega)).trans E0.out, (hb.block _ (by omega)).trans E2.out, E1.out.below hb (by omega), HB0.out.trans (hb.mono (by omega))⟩
        rw [← hz]
        exact World.iter_heap w0 s 0
      have HST := Lib.hid hst
      clear hst c1
      have hz := HZ.out
      simp only [hz]
      clear hz
      go_loopw [] (fun wr => ∃ t pos N : Nat, pl s t = pos ∧ pos ≤ s.size ∧ Lm w wr s pos N (mm s t)) (fun wr => s.size - wr.iterPos (w.heap.size + 3))
      case atStart => exact ⟨0, 0, 0, rfl, by omega, HST.out⟩
      case round =>
        clear HST
        obtain ⟨t, pos, N, hpl, hpos, hL⟩ := hrel
        have HPL := Lib.hid hpl
        have HL := Lib.hid hL
        clear hpl hL
        rename World => wr
        by_cases hlt : pos < s.size
        · obtain ⟨c, hc⟩ : ∃ c, (Utf8.decode s pos).1 = c := ⟨_, rfl⟩
          obtain ⟨wd, hwd⟩ : ∃ wd, (Utf8.decode s pos).2 = wd := ⟨_, rfl⟩
          have hok : Ok s pos := by have := HV.out t (by rw [HPL.out]; exact hlt); rw [HPL.out] at this; exact this
          have hfit := fits s pos hlt
          unfold Ok at hok
          rw [hc, hwd] at hok
          rw [hwd] at hfit
          obtain ⟨f1, f2⟩ := hfit
          have HG := Lib.hid hok.1
          have hr : rlen c = wd := hok.2
          have HPS := Lib.hid (pl_step HPL.out hwd)
          have HWD := Lib.hid hwd
          have HNX := fun ty => Lib.run_next_any_at (P := Try.prog) wr (w.heap.size + 3) s pos ty HL.out.it hlt
          simp only [hc, hwd] at HNX
          have HL2 := Lib.hid (HL.out.next (pos + wd))
          have RL := Lib.hid (fun w' => rl14 w' c HG.out)
          simp only [hr] at RL
          clear hok hc hwd hr
          go_upto_region 9 with (fail)
          clear HNX
          generalize wr.iterAt (w.heap.size + 3) s (pos + wd) = W1 at *
          have bx : W1.cell? ⟨w.heap.size + 2, 0, none⟩ = some (.map (some (w.heap.size + 1))) := (cell_of_row _ _ 0 _ _ _ HL2.out.b2).trans rfl
          obtain ⟨pw, hpw⟩ : ∃ pw : Nat → World, ∀ n, (Instr.mapUpdate 26 (.map (some (w.heap.size + 1))) (.string (cut s pos wd)) (.string s)).run Try.prog (W1.drewN n) = .ok () (pw n) ∧ MapIs (pw n) (w.heap.size + 1) StrKey (if (mm s t (.string (cut s pos wd))).isSome then N else N + 1) (upd (mm s t) (.string (cut s pos wd)) (.string s)) ∧ OnlyB (w.heap.size + 1) (W1.drewN n) (pw n) := by
            have h := fun n => (HL2.out.drewN n).mp.put (strKey Try.underlying9 (W1.drewN n)) Try.underlying26 ⟨cut s pos wd, rfl⟩ (.string s)
            exact ⟨fun n => Classical.choose (h n), fun n => Classical.choose_spec (h n)⟩
          have hup : ∀ n, (Instr.mapUpdate 26 (.map (some (w.heap.size + 1))) (.string (s.extract 0 pos ++ s.extract (pos + wd) s.size)) (.string s)).run Try.prog (W1.drewN n) = .ok () (pw n) := fun n => (hpw n).1
          have HPW := Lib.hid hpw
          clear hpw
          have e1 : IntKind.i64.wrap ((pos : Int) + (wd : Int)) = (pos : Int) + (wd : Int) := Go.IntWalk.i64_in _ (by omega)
          have e2 : (0 : Int) ≤ (pos : Int) + (wd : Int) := by omega
          have e3 : ((pos : Int) + (wd : Int)).toNat = pos + wd := by omega
          have e4 : (pos : Int) + (wd : Int) ≤ (s.size : Int) := by omega
          have e5 : (9223372036854775807 < pos + (s.size - (pos + wd))) = False := eq_false (by omega)
          have hup1 : (Instr.mapUpdate 26 (.map (some (w.heap.size + 1))) (.string (s.extract 0 pos ++ s.extract (pos + wd) s.size)) (.string s)).run Try.prog W1.drew = .ok () (pw 1) := hup 1
          clear hup
          go_region_law (first | (go_simp; go_at_call 14; refine (RL.out _).mono ?_; rintro e w2 ⟨rfl, rfl⟩) | (go_at_call 14; refine (RL.out _).mono ?_; rintro e w2 ⟨rfl, rfl⟩))
          all_goals
            have HMM : Hid (mm s (t + 1) = upd (mm s t) (.string (cut s pos wd)) (.string s)) := Lib.hid (by
              have e : mm s (t + 1) = upd (mm s t) (.string (cut s (pl s t) (Utf8.decode s (pl s t)).2)) (.string s) := rfl
              rw [e, HPL.out, HWD.out])
            have HLN := Lib.hid ((HL2.out.drewN 1).put (HPW.out 1).2.1 (HPW.out 1).2.2)
            clear hup1 bx e1 e2 e3 e4 e5
            go_wp2_with fail
            go_roundw
            case rel =>
              exact ⟨t + 1, pos + wd, _, HPS.out, f2, by rw [HMM.out]; exact HLN.out⟩
            case measure => simp [World.iterPos, HLN.out.it, HL.out.it]; omega
        · have hnx := fun ty => Lib.run_next_end_at (P := Try.prog) wr (w.heap.size + 3) s pos ty HL.out.it hlt
          go_wp2_with fail
          go_roundw
          case rel => exact .inr ⟨rfl, N, t, pos, HL.out, by rw [HPL.out]; omega⟩
          case measure => simp [intOf]
    · obtain ⟨N, T, pos, hL, hT⟩ := hdn
      have HL := Lib.hid hL
      have HT := Lib.hid hT
      have bx : wr.cell? ⟨w.heap.size + 2, 0, none⟩ = some (.map (some (w.heap.size + 1))) := (cell_of_row _ _ 0 _ _ _ hL.b2).trans rfl
      have b0 : wr.cell? ⟨w.heap.size, 0, none⟩ = some (.map none) := (cell_of_row _ _ 0 _ _ _ hL.b0).trans rfl
      have f0 : wr.frozen? ⟨w.heap.size, 0, none⟩ = false := frozen_of_row _ _ 0 _ _ hL.b0
      have sc := World.cell?_setCell_same wr ⟨w.heap.size, 0, none⟩ (.map (some (w.heap.size + 1))) b0
      have SC := Lib.hid sc
      clear hL hT sc
      go_wp2_with fail
      have sc := SC.out
      refine bodyPost_ret (v := .agg #[.map (some (w.heap.size + 1))]) (by simp [results, Try.results9, go_sem, sc]) rfl ⟨_, N, T, rfl, HL.out.mp.setCell _ _ (by simp), HT.out, HL.out.bel.setCell (by simp) _, ?_⟩
      have := HL.out.mp.lt
      simpa using this
end Go.Proofs.Ythmakfnceliciaa.ty
