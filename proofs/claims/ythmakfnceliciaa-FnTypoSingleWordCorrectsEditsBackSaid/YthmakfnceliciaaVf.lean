/-
  The typo detector walked: what it finds.
-/
import Derived.Test.YthmakfnceliciaaVd
import Derived.Test.YthmakfnceliciaaVe

namespace Go.Proofs.Ythmakfnceliciaa.ty
open Go.ChangeShapes Go.WideShapes Go.ChangeAt Go.RowKit Go.Deep Go.Proofs.Ythmakfnceliciaa.mk Go.Proofs.Ythmakfnceliciaa.u8
set_option linter.unusedVariables false
set_option linter.unusedSimpArgs false
set_option maxRecDepth 100000
set_option maxHeartbeats 4000000
def gh (M : Value → Option Value) (k : ByteArray) : Bool := (M (.string k)).isSome
def gv (M : Value → Option Value) (r k : ByteArray) : ByteArray := if gh M k = true then r else ByteArray.empty
theorem look26g {w : World} {B N : Nat} {M : Value → Option Value} {r : ByteArray} (h : MapIs w B StrKey N M) (hM : ∀ k v, M (.string k) = some v → v = .string r) (k : ByteArray) :
    (Instr.lookup 26 (.map (some B)) (.string k) true).run Try.prog w = .ok (.tuple #[.string (gv M r k), .bool (gh M k)]) w := by
  have := h.look (P := Try.prog) (T := 26) (et := 9) (z := .string ByteArray.empty) (strKey Try.underlying9 w) Try.underlying26 (zero9 w) ⟨k, rfl⟩ true
  rw [this]
  unfold gv gh
  cases e : M (.string k) with
  | none => simp
  | some v => simp [hM k v e]
/-- What is held while the typo is walked over. -/
structure Lq (w wr : World) (s : ByteArray) (B pos N : Nat) (M : Value → Option Value) : Prop where
  it : wr.heap[w.heap.size + 1]? = some (.stringIter s pos)
  bx : wr.cell? ⟨w.heap.size, 0, none⟩ = some (.map (some B))
  mp : MapIs wr B StrKey N M
  bel : Below w.heap.size w wr
  lt : B < w.heap.size
theorem Lq.drewN {w wr : World} {s : ByteArray} {B pos N : Nat} {M : Value → Option Value} (h : Lq w wr s B pos N M) (n : Nat) : Lq w (wr.drewN n) s B pos N M :=
  ⟨by simpa using h.it, by simpa using h.bx, h.mp.of_block (by simp), ⟨h.bel.os, h.bel.tape, h.bel.output, h.bel.size, h.bel.block⟩, h.lt⟩
theorem Lq.next {w wr : World} {s : ByteArray} {B pos N : Nat} {M : Value → Option Value} (h : Lq w wr s B pos N M) (p : Nat) : Lq w (wr.iterAt (w.heap.size + 1) s p) s B p N M :=
  ⟨Lib.iterAt_heap wr _ s pos p h.it, (World.cell?_of_block (a := ⟨w.heap.size, 0, none⟩) (Lib.iterAt_other wr (w.heap.size + 1) w.heap.size s p (by omega))).trans h.bx, h.mp.of_block (Lib.iterAt_other wr (w.heap.size + 1) B s p (by have := h.lt; omega)), Lib.below_iterAt h.bel (by omega) s p, h.lt⟩
def Fnd (w : World) (r : ByteArray) (e : Ending) (w' : World) : Prop := e = .returned (.tuple #[.string r, .bool true]) ∧ Below w.heap.size w w'
theorem gv_yes {M : Value → Option Value} {r k : ByteArray} (h : gh M k = true) : gv M r k = r := if_pos h
theorem find_now (w : World) (s r : ByteArray) (B N : Nat) (M : Value → Option Value) (hm : MapIs w B StrKey N M) (hM : ∀ k v, M (.string k) = some v → v = .string r) (hk : gh M s = true) : Calls Try.prog 10 #[.agg #[.map (some B)], .string s] w (Fnd w r) := by
  have l1 := look26g (hm.alloc (.cells #[.map (some B)] 28)) hM s
  rw [hk, gv_yes hk] at l1
  clear hm hM hk
  go_enter Try.func10, Try.ntmps10
  go_wp2_with fail
  go_ret2
  exact ⟨rfl, (Below.refl _ _).alloc (Nat.le_refl _) _⟩
theorem find_walk (w : World) (s r : ByteArray) (B N : Nat) (M : Value → Option Value) (hs : s.size ≤ 8192) (hm : MapIs w B StrKey N M) (hM : ∀ k v, M (.string k) = some v → v = .string r) (p : Nat) (hp : ∀ v, v ≤ p → Ok s (pl s v) ∧ pl s v < s.size)
    (hk : gh M (cut s (pl s p) (Utf8.decode s (pl s p)).2) = true) : Calls Try.prog 10 #[.agg #[.map (some B)], .string s] w (Fnd w r) := by
  by_cases h0 : gh M s = true
  · exact find_now w s r B N M hm hM h0
  replace h0 : gh M s = false := by simpa using h0
  have hlt := hm.lt
  have l1 := look26g (hm.alloc (.cells #[.map (some B)] 28)) hM s
  rw [h0] at l1
  have HM := Lib.hid hm
  have HMV := Lib.hid hM
  have HP := Lib.hid hp
  have HK := Lib.hid hk
  have HZ : Hid (0 < s.size) := Lib.hid (by have := (hp 0 (by omega)).2; omega)
  clear hm hM hk hp h0
  go_enter Try.func10, Try.ntmps10
  go_wp2_with fail
  clear l1
  have hst : Lq w ((w.alloc (.cells #[.map (some B)] 28)).iter s 0) s B 0 N M := by
    refine ⟨?_, ?_, (HM.out.alloc _).alloc _, ((Below.refl _ _).alloc (Nat.le_refl _) _).alloc (by simp) _, hlt⟩
    · have := World.iter_heap (w.alloc (.cells #[.map (some B)] 28)) s 0
      simpa using this
    · have hb := (Below.refl (w.alloc (.cells #[.map (some B)] 28)).heap.size (w.alloc (.cells #[.map (some B)] 28))).alloc (Nat.le_refl _) (.stringIter s 0)
      exact (hb.cell (p := ⟨w.heap.size, 0, none⟩) (by simp)).trans (by simp)
  have HST := Lib.hid hst
  clear hst
  go_loopw [] (fun wr => ∃ t pos : Nat, t ≤ p ∧ pl s t = pos ∧ pos < s.size ∧ Lq w wr s B pos N M) (fun wr => s.size - wr.iterPos (w.heap.size + 1))
  case atStart => exact ⟨0, 0, by omega, rfl, HZ.out, HST.out⟩
  case round =>
    clear HST
    obtain ⟨t, pos, htp, hpl, hlt, hL⟩ := hrel
    have HPL := Lib.hid hpl
    have HL := Lib.hid hL
    clear hpl hL
    rename World => wr
    obtain ⟨c, hc⟩ : ∃ c, (Utf8.decode s pos).1 = c := ⟨_, rfl⟩
    obtain ⟨wd, hwd⟩ : ∃ wd, (Utf8.decode s pos).2 = wd := ⟨_, rfl⟩
    have hok : Ok s pos := by have := (HP.out t htp).1; rw [HPL.out] at this; exact this
    have hfit := fits s pos hlt
    unfold Ok at hok
    rw [hc, hwd] at hok
    rw [hwd] at hfit
    obtain ⟨f1, f2⟩ := hfit
    have HG := Lib.hid hok.1
    have hr : rlen c = wd := hok.2
    have HR := Lib.hid hr
    have HPS := Lib.hid (pl_step HPL.out hwd)
    have HWD := Lib.hid hwd
    have HNX := fun ty => Lib.run_next_any_at (P := Try.prog) wr (w.heap.size + 1) s pos ty HL.out.it hlt
    simp only [hc, hwd] at HNX
    have HL2 := Lib.hid (HL.out.next (pos + wd))
    have RL := Lib.hid (fun w' => rl14 w' c HG.out)
    simp only [hr] at RL
    clear hok hc hwd hr
    go_upto_region 7 with (fail)
    clear HNX
    generalize wr.iterAt (w.heap.size + 1) s (pos + wd) = W1 at *
    have e1 : IntKind.i64.wrap ((pos : Int) + (wd : Int)) = (pos : Int) + (wd : Int) := Go.IntWalk.i64_in _ (by omega)
    have e2 : (0 : Int) ≤ (pos : Int) + (wd : Int) := by omega
    have e3 : ((pos : Int) + (wd : Int)).toNat = pos + wd := by omega
    have bx := HL2.out.bx
    have lkn : ∀ n k, (Instr.lookup 26 (.map (some B)) (.string k) true).run Try.prog (W1.drewN n) = .ok (.tuple #[.string (gv M r k), .bool (gh M k)]) (W1.drewN n) := fun n k => look26g (HL2.out.drewN n).mp HMV.out k
    have lk : ∀ k, (Instr.lookup 26 (.map (some B)) (.string k) true).run Try.prog W1 = .ok (.tuple #[.string (gv M r k), .bool (gh M k)]) W1 := fun k => look26g HL2.out.mp HMV.out k
    go_quiet ((go_at_call 14; exact Calls.quiet_of_same ((RL.out _).mono fun _ _ h => ⟨h.1, h.2.symm⟩)))
    clear lk lkn
    rw [show s.extract 0 pos ++ s.extract (pos + wd) s.size = cut s pos wd from rfl]
    rcases hg : gh M (cut s pos wd) with _ | _
    · have htp' : t < p := by
        rcases Nat.lt_or_ge t p with h | h
        · exact h
        · obtain rfl : t = p := by omega
          have := HK.out
          rw [HPL.out, HWD.out, hg] at this
          cases this
      have HN := Lib.hid (HP.out (t + 1) htp').2
      have HG2 := Lib.hid hg
      clear hg
      go_wp2_with fail
      go_roundw
      case rel => exact ⟨t + 1, pos + wd, htp', HPS.out, by have := HN.out; rw [HPS.out] at this; exact this, HL2.out.drewN _⟩
      case measure => simp [World.iterPos, HL2.out.it, HL.out.it]; omega
    · rw [gv_yes hg]
      have HB2 := Lib.hid (HL2.out.drewN nq).bel
      clear hg
      go_wp2_with fail
      go_ret2
      exact ⟨rfl, HB2.out⟩
end Go.Proofs.Ythmakfnceliciaa.ty
