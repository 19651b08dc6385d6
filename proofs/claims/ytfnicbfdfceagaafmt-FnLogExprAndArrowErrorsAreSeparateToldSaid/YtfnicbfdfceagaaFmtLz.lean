/-
  The messages' row under Go's stable sort: the messages stay, in some order.
-/
import Derived.Test.YtfnicbfdfceagaaFmtLv
namespace Go.Proofs.YtfnicbfdfceagaaFmt.lg
open Go.ChangeShapes Go.WideShapes Go.ChangeAt Go.RowKit Go.Deep
set_option linter.unusedVariables false
set_option linter.unusedSimpArgs false
set_option maxRecDepth 100000
set_option maxHeartbeats 4000000
theorem swap_perm (M : List Ms) (i j : Nat) (hi : i < M.length) (hj : j < M.length) : ((M.set i M[j]).set j M[i]).Perm M := by
  have h := Array.swap_perm (xs := M.toArray) (i := i) (j := j) (by simpa using hi) (by simpa using hj)
  have e : (M.toArray.swap i j (by simpa using hi) (by simpa using hj)).toList = (M.set i M[j]).set j M[i] := by simp
  rw [← e]
  have := Array.perm_iff_toList_perm.1 h
  simpa using this
def SwapP (w : World) (rb : Nat) (M : List Ms) (e : Ending) (w' : World) : Prop := e = .returned (.tuple #[]) ∧ ∃ M', M'.Perm M ∧ RowM w' rb M' ∧ Touch (fun k => k = rb) w w'
theorem swap_ne (w : World) (rb cap : Nat) (M : List Ms) (i j : Nat) (hi : i < M.length) (hj : j < M.length) (hn : M.length ≤ 1048576) (R : RowM w rb M) (hij : i ≠ j) :
    Calls Tryf.prog 102 #[sl (some ⟨rb, 0, none⟩) M.length cap, i64 i, i64 j] w (SwapP w rb M) := by
  obtain ⟨mi, hmi, p0, p1, p2, p3, p4, p5, p6, p7⟩ : ∃ m, M[i]'hi = m ∧ At w rb i m := ⟨_, rfl, R.c i hi⟩
  obtain ⟨mj, hmj, r0, r1, r2, r3, r4, r5, r6, r7⟩ : ∃ m, M[j]'hj = m ∧ At w rb j m := ⟨_, rfl, R.c j hj⟩
  have f := R.z
  have HR := Lib.hid R
  have HI := Lib.hid hi
  have HJ := Lib.hid hj
  clear R
  have HE := Lib.hid (And.intro hmi hmj)
  clear hmi hmj
  have m0 : i * 8 ≠ j * 8 := by omega
  obtain ⟨n, hn0⟩ : ∃ n, M.length = n := ⟨_, rfl⟩
  rw [hn0] at hi hj hn ⊢
  clear hn0
  go_enter Tryf.func102, Tryf.ntmps102
  go_region
  go_end0
  clear p0 p1 p2 p3 p4 p5 p6 p7 r0 r1 r2 r3 r4 r5 r6 r7
  have r1 := putM_row HR.out i HI.out mj
  have r2 := putM_row r1 j (by rw [List.length_set]; exact HJ.out) mi
  have t2 := (putM_touch w rb i mj).trans (putM_touch _ rb j mi)
  change SwapP w rb M _ ((putM (putM w rb i mj) rb j mi).drew)
  generalize putM (putM w rb i mj) rb j mi = X at *
  refine ⟨rfl, _, ?_, r2.of_block rfl, t2.drew⟩
  have := swap_perm M i j HI.out HJ.out
  rw [HE.out.1, HE.out.2] at this
  exact this
theorem swap_eq (w : World) (rb cap : Nat) (M : List Ms) (i : Nat) (hi : i < M.length) (hn : M.length ≤ 1048576) (R : RowM w rb M) :
    Calls Tryf.prog 102 #[sl (some ⟨rb, 0, none⟩) M.length cap, i64 i, i64 i] w (SwapP w rb M) := by
  obtain ⟨mi, hmi, p0, p1, p2, p3, p4, p5, p6, p7⟩ : ∃ m, M[i]'hi = m ∧ At w rb i m := ⟨_, rfl, R.c i hi⟩
  have f := R.z
  have HR := Lib.hid R
  have HI := Lib.hid hi
  clear R
  have HE := Lib.hid hmi
  clear hmi
  obtain ⟨n, hn0⟩ : ∃ n, M.length = n := ⟨_, rfl⟩
  rw [hn0] at hi hn ⊢
  clear hn0
  go_enter Tryf.func102, Tryf.ntmps102
  go_region
  go_end0
  clear p0 p1 p2 p3 p4 p5 p6 p7
  have r1 := putM_row HR.out i HI.out mi
  have r2 := putM_row r1 i (by rw [List.length_set]; exact HI.out) mi
  have t2 := (putM_touch w rb i mi).trans (putM_touch _ rb i mi)
  change SwapP w rb M _ ((putM (putM w rb i mi) rb i mi).drew)
  generalize putM (putM w rb i mi) rb i mi = X at *
  refine ⟨rfl, _, ?_, r2.of_block rfl, t2.drew⟩
  have := swap_perm M i i HI.out HI.out
  rw [HE.out] at this
  exact this
/-- What the sort keeps. -/
def JM (w0 : World) (rb : Nat) (M0 : List Ms) (w : World) : Prop := ∃ M, M.Perm M0 ∧ RowM w rb M ∧ Touch (fun k => k = rb) w0 w
theorem srt (w0 : World) (rb cap : Nat) (M0 : List Ms) (hn : M0.length ≤ 1048576) (hl : ∀ m ∈ M0, LocOk w0 m.g m.len ∧ m.g ≠ rb) : Srt (JM w0 rb M0) (some ⟨rb, 0, none⟩) M0.length cap := by
  refine ⟨fun w i j hJ hi hj => ?_, fun w i j hJ hi hj => ?_⟩
  · obtain ⟨M, hp, R, t⟩ := hJ
    obtain ⟨i', rfl⟩ := Int.eq_ofNat_of_zero_le hi.1
    obtain ⟨j', rfl⟩ := Int.eq_ofNat_of_zero_le hj.1
    have hlen := hp.length_eq
    have hi' : i' < M.length := by omega
    have hj' : j' < M.length := by omega
    have loc : ∀ m ∈ M, LocOk w m.g m.len := fun m hm => by
      obtain ⟨a, b⟩ := hl m (hp.mem_iff.1 hm)
      exact a.of_block (t.block _ a.lt b)
    refine (less101 w rb M0.length cap i' j' M[i'] M[j'] (by omega) (by omega) hn (R.c i' hi') (R.c j' hj') (loc _ (List.getElem_mem _)) (loc _ (List.getElem_mem _))).mono ?_
    rintro e w' ⟨hb, tt⟩
    have hrb : rb < w.heap.size := block_lt_of_cell (R.c i' hi').c0
    exact ⟨hb, M, hp, R.of_block (tt.block rb hrb id), t.trans (tt.mono fun _ _ h => h.elim)⟩
  · obtain ⟨M, hp, R, t⟩ := hJ
    obtain ⟨i', rfl⟩ := Int.eq_ofNat_of_zero_le hi.1
    obtain ⟨j', rfl⟩ := Int.eq_ofNat_of_zero_le hj.1
    have hlen := hp.length_eq
    have hi' : i' < M.length := by omega
    have hj' : j' < M.length := by omega
    have main : Calls Tryf.prog 102 #[sl (some ⟨rb, 0, none⟩) M0.length cap, i64 i', i64 j'] w (SwapP w rb M) := by
      rw [← hlen]
      by_cases e : i' = j'
      · subst e; exact swap_eq w rb cap M i' hi' (by omega) R
      · exact swap_ne w rb cap M i' j' hi' hj' (by omega) R e
    refine main.mono ?_
    rintro e w' ⟨rfl, M', hp', R', t'⟩
    exact ⟨rfl, M', hp'.trans hp, R', t.trans t'⟩
end Go.Proofs.YtfnicbfdfceagaaFmt.lg
