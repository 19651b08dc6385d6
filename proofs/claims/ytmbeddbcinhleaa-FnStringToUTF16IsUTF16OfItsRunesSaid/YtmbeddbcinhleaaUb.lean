/-
  UTF-16 units: StringToUTF16 walked.
-/
import Derived.Test.YtmbeddbcinhleaaUa
import Derived.Test.YtmbeddbcinhleaaProg
import Derived.ProofKit
import Derived.Below
import Derived.ChangeOld
import Derived.OpenShut
import Derived.Lib.Hide
import Derived.WalkLawsBesides
import Derived.Deep.OwnRows
import Derived.Laws.Rows
import Derived.WalkSpells
import Derived.WalkSmall
import Derived.Outline
import Derived.BigQuiet
import Derived.Deep.QuietTactic
import Derived.Deep.DeepCutAuto
import Derived.Deep.CutBlock
import Derived.Laws.RangeString
import Derived.Laws.RangeAny
import Derived.Lib.OthersKept
import Derived.Laws.AppendOwn
import Derived.Laws.MakeOwn
import Derived.Laws.BitsAllLaws
import Derived.IntWalk
import Derived.Deep.RegionLaw
import Derived.Deep.RegionWith
import Derived.Deep.RegionHeld3
import Derived.RegionTactic
import Derived.ChangeAlike
import Derived.Laws.Tables
namespace Go.Proofs.Ytmbeddbcinhleaa.ut
open Go.ChangeShapes Go.WideShapes Go.ChangeAt Go.RowKit Go.Deep Go.Proofs.Ytmbeddbcinhleaa.u8
set_option linter.unusedVariables false
set_option linter.unusedSimpArgs false
/-- The units of a code point. -/
def enc (c : Nat) : List Int := if c ≤ 65535 then [(c : Int)] else [55296 + ((c : Int) - 65536) / 1024, 56320 + ((c : Int) - 65536) % 1024]
/-- The units of what is left of a string. -/
def us (s : ByteArray) : Nat → Nat → List Int
  | 0, _ => []
  | b + 1, pos => if pos < s.size then enc (Utf8.decode s pos).1 ++ us s b (pos + (Utf8.decode s pos).2) else []
theorem us_end (s : ByteArray) (b pos : Nat) (h : ¬ pos < s.size) : us s b pos = [] := by cases b <;> simp [us, h]
theorem enc_len (c : Nat) : (enc c).length ≤ 2 := by unfold enc; split <;> simp
/-- So far xs, the walk stands at pos. -/
def Ui (s : ByteArray) (pos : Nat) (xs : List Int) : Prop := ∃ b, xs ++ us s b pos = us s s.size 0 ∧ s.size ≤ pos + b ∧ xs.length ≤ 2 * pos ∧ pos ≤ s.size
theorem Ui.start (s : ByteArray) : Ui s 0 [] := ⟨s.size, by simp, by omega, by simp, by omega⟩
theorem Ui.done {s : ByteArray} {pos : Nat} {xs : List Int} (h : Ui s pos xs) (hp : ¬ pos < s.size) : xs = us s s.size 0 := by
  obtain ⟨b, h1, _⟩ := h
  rw [us_end s b pos hp, List.append_nil] at h1
  exact h1
theorem Ui.step {s : ByteArray} {pos : Nat} {xs : List Int} (h : Ui s pos xs) (hp : pos < s.size) {c wd : Nat} (hc : (Utf8.decode s pos).1 = c) (hw : (Utf8.decode s pos).2 = wd) : Ui s (pos + wd) (xs ++ enc c) := by
  obtain ⟨b, h1, h2, h3, h4⟩ := h
  have hf := fits s pos hp
  rw [hw] at hf
  obtain ⟨b, rfl⟩ : ∃ b', b = b' + 1 := ⟨b - 1, by omega⟩
  refine ⟨b, ?_, by omega, ?_, by omega⟩
  · rw [← h1, List.append_assoc]
    congr 1
    rw [us, if_pos hp, hc, hw]
  · have := enc_len c
    rw [List.length_append]; omega

structure Us (w wr : World) (s : ByteArray) (K : Nat) (v : Value) (n pos : Nat) (xs : List Int) : Prop where
  it : wr.heap[K]? = some (.stringIter s pos)
  own : wr.ownsRow w.heap.size 26 1 v n (xs.map (Value.int .u16))
  bel : Below w.heap.size w wr
  lt : w.heap.size ≤ K
  len : n = xs.length
theorem Us.next {w wr : World} {s : ByteArray} {K n pos : Nat} {v : Value} {xs : List Int} (h : Us w wr s K v n pos xs) (p : Nat) : Us w (wr.iterAt K s p) s K v n p xs := by
  obtain ⟨h1, h2, h3, h4, h5⟩ := h
  refine ⟨Lib.iterAt_heap wr _ s pos p h1, ?_, Lib.below_iterAt h3 h4 s p, h4, h5⟩
  obtain ⟨hl, ho⟩ := h2
  refine ⟨hl, ?_⟩
  rcases ho with ho | ⟨g, cap, cur, e, hb, hg, h6⟩
  · exact .inl ho
  · have hne : g ≠ K := by rintro rfl; rw [h1] at hg; cases hg
    exact .inr ⟨g, cap, cur, e, hb, (Lib.iterAt_other wr K g s p hne).trans hg, h6⟩
theorem Us.app {w W1 w1 : World} {s : ByteArray} {K n m pos : Nat} {v v' : Value} {xs news : List Int} (h : Us w W1 s K v n pos xs) {o : Obj} (ho : w1.ownsRow w.heap.size 26 1 v' (n + m) (xs.map (Value.int .u16) ++ news.map (Value.int .u16))) (hg : (W1.alloc o).grownBy w1 v.ownBlock) (hm : m = news.length) : Us w w1 s K v' (n + m) pos (xs ++ news) := by
  obtain ⟨h1, h2, h3, h4, h5⟩ := h
  have hlt := lt_of_block h1
  refine ⟨?_, by rw [List.map_append]; exact ho, ?_, h4, by rw [List.length_append, h5, hm]⟩
  · refine (hg.block K (by simp; omega) ?_).trans ((Below.heap_alloc _ _ _ hlt).trans h1)
    intro e
    obtain ⟨_, hh⟩ := h2
    rcases hh with ⟨rfl, _⟩ | ⟨g, cap, cur, rfl, _, hgg, _⟩
    · cases e
    · simp [Value.ownBlock] at e
      subst e
      rw [h1] at hgg; cases hgg
  · have hb := h3.alloc h3.size o
    refine ⟨hg.os.trans hb.os, hg.tape.trans hb.tape, hg.output.trans hb.output, Nat.le_trans hb.size hg.size, fun k hk => ?_⟩
    refine (hg.block k (Nat.lt_of_lt_of_le hk hb.size) ?_).trans (hb.block k hk)
    intro e
    have := (h2.lt k e.symm).1
    omega
theorem infoE : (Try.prog.info? 26).map (fun i => (i.zero, i.size, i.bytes)) = some (some (.int .u16 0), 1, 2) := by kernel_rfl
def UsP (w : World) (xs : List Int) (e : Ending) (w' : World) : Prop := ∃ v n, e = .returned v ∧ w'.ownsRow w.heap.size 26 1 v n (xs.map (Value.int .u16)) ∧ n = xs.length ∧ Below w.heap.size w w'
theorem make0 (w : World) (c : Nat) (hc : c ≤ 1048576) : (Instr.makeSlice 23 (.int .i64 0) (.int .i64 c)).run Try.prog w = .ok (.slice (some ⟨w.heap.size, 0, none⟩) 0 c) (w.alloc (.cells (madeCells #[.int .u16 0] c) 26)) := by
  obtain ⟨i, hi, hz⟩ := Option.map_eq_some_iff.1 infoE
  simp only [Prod.mk.injEq] at hz
  obtain ⟨h1, h2, h3⟩ := hz
  have hr := run_make (P := Try.prog) w 23 26 i _ Try.underlying23 hi h1 .i64 .i64 0 c (by omega) (by omega) (by rw [h3]; omega) (by omega)
  simp only [Int.toNat_natCast, h2, Nat.mul_one] at hr
  exact hr
theorem made_size (c : Nat) : (madeCells #[.int .u16 0] c).size = c * 1 := by simp [size_madeCells]
theorem and1023 (x : Nat) (h : x < 1048576) : bits .and .i32 ((x : Nat) : Int) 1023 = ((x % 1024 : Nat) : Int) := by
  have h1 : x &&& 1023 = x % 1024 := Nat.and_two_pow_sub_one_eq_mod x 10
  have hx : x &&& 1023 < 2 ^ 31 := by rw [h1]; omega
  show IntKind.i32.wrap ((BitVec.ofInt 32 (x : Int) &&& BitVec.ofInt 32 (1023 : Int)).toNat : Int) = _
  rw [BitVec.toNat_and]
  have e1 : (BitVec.ofInt 32 (x : Int)).toNat = x := by
    rw [BitVec.ofInt_natCast, BitVec.toNat_ofNat]; exact Nat.mod_eq_of_lt (by omega)
  have e2 : (BitVec.ofInt 32 (1023 : Int)).toNat = 1023 := by decide
  rw [e1, e2, h1, IntKind.wrap_i32]
  omega

theorem news1 (W : World) (x : Int) : ∀ j u, ([x].map (Value.int .u16))[j]? = some u → (W.alloc (.cells #[.int .u16 x] 26)).cell? ((⟨W.heap.size, 0, none⟩ : Addr).add j) = some u := by
  intro j u h
  have hc := cell_of_row (W.alloc (.cells #[.int .u16 x] 26)) W.heap.size j _ _ _ (heap_alloc_new W _)
  rw [Go.WideShapes.add_plain, Nat.zero_add, hc]
  simpa using h
theorem news2 (W : World) (x y : Int) : ∀ j u, ([x, y].map (Value.int .u16))[j]? = some u → (W.alloc (.cells #[.int .u16 x, .int .u16 y] 26)).cell? ((⟨W.heap.size, 0, none⟩ : Addr).add j) = some u := by
  intro j u h
  have hc := cell_of_row (W.alloc (.cells #[.int .u16 x, .int .u16 y] 26)) W.heap.size j _ _ _ (heap_alloc_new W _)
  rw [Go.WideShapes.add_plain, Nat.zero_add, hc]
  simpa using h
theorem ones (l : List Int) : ∀ u ∈ l.map (Value.int .u16), u.oneCell' = true := by
  intro u hu
  obtain ⟨x, _, rfl⟩ := List.mem_map.1 hu
  rfl
theorem half {c : Nat} (h : 65536 ≤ c) (h' : c ≤ 1114111) : ∃ x y : Nat, x ≤ 1023 ∧ y ≤ 1023 ∧ ((c : Int) - 65536) / 1024 = (x : Int) ∧ bits .and .i32 (x : Int) 1023 = (x : Int) ∧ bits .and .i32 ((c : Int) - 65536) 1023 = (y : Int) ∧ enc c = [55296 + (x : Int), 56320 + (y : Int)] := by
  refine ⟨(c - 65536) / 1024, (c - 65536) % 1024, by omega, by omega, by omega, ?_, ?_, ?_⟩
  · rw [and1023 _ (by omega)]; omega
  · rw [show ((c : Int) - 65536) = ((c - 65536 : Nat) : Int) by omega, and1023 _ (by omega)]
  · unfold enc
    rw [if_neg (by omega)]
    congr 1
    · omega
    · congr 1; omega

set_option maxRecDepth 100000 in
set_option maxHeartbeats 4000000 in
theorem s2u21 (w : World) (s : ByteArray) (hs : s.size ≤ 1048576) : Calls Try.prog 5 #[.string s] w (UsP w (us s s.size 0)) := by
  obtain ⟨i0, hi, hz⟩ := Option.map_eq_some_iff.1 infoE
  simp only [Prod.mk.injEq] at hz
  obtain ⟨hz0, hz1, hz2⟩ := hz
  have HI0 := Lib.hid hi
  have HZ0 := Lib.hid hz0
  have HZ1 := Lib.hid hz1
  have HZ2 := Lib.hid hz2
  clear hi hz0 hz1 hz2
  have hmk := make0 w s.size hs
  go_enter Try.func5, Try.ntmps5
  go_wp2_with fail
  clear hmk
  have hst : Us w ((w.alloc (.cells (madeCells #[.int .u16 0] s.size) 26)).iter s 0) s (w.heap.size + 1) (.slice (some ⟨w.heap.size, 0, none⟩) 0 s.size) 0 0 [] := by
    refine ⟨?_, ?_, ((Below.refl _ _).alloc (Nat.le_refl _) _).alloc (by simp) _, by omega, rfl⟩
    · have := World.iter_heap (w.alloc (.cells (madeCells #[.int .u16 0] s.size) 26)) s 0
      simpa using this
    · exact (World.ownsRow_made w (madeCells #[.int .u16 0] s.size) s.size (Nat.le_refl _) (by unfold maxLen; omega) (made_size _)).alloc _
  have HST := Lib.hid hst
  clear hst
  go_loopw [3] (fun v wr => ∃ (pos n : Nat) (xs : List Int), Ui s pos xs ∧ Us w wr s (w.heap.size + 1) v n pos xs) (fun _ wr => s.size - wr.iterPos (w.heap.size + 1))
  case atStart => exact ⟨0, 0, [], Ui.start s, HST.out⟩
  case round =>
    clear HST
    rename World => wr
    obtain ⟨pos, n, xs, hui, hus⟩ := hrel
    have HUI := Lib.hid hui
    have HU := Lib.hid hus
    have hlen : n ≤ 2 * pos ∧ pos ≤ s.size := by
      obtain ⟨b, _, _, h3, h4⟩ := hui
      have := hus.len
      omega
    obtain ⟨n1, n2⟩ := hlen
    clear hui hus
    by_cases hlt : pos < s.size
    · obtain ⟨c, hc⟩ : ∃ c, (Utf8.decode s pos).1 = c := ⟨_, rfl⟩
      obtain ⟨wd, hwd⟩ : ∃ wd, (Utf8.decode s pos).2 = wd := ⟨_, rfl⟩
      have hfit := fits s pos hlt
      have hg := dec_max s pos
      rw [hc] at hg
      rw [hwd] at hfit
      unfold GoodR at hg
      have hcm : c ≤ 1114111 := by omega
      obtain ⟨f1, f2⟩ := hfit
      have HNX := fun ty => Lib.run_next_any_at (P := Try.prog) wr (w.heap.size + 1) s pos ty HU.out.it hlt
      simp only [hc, hwd] at HNX
      have HU2 := Lib.hid (HU.out.next (pos + wd))
      have HUI2 := Lib.hid (HUI.out.step hlt hc hwd)
      clear hg hc hwd
      go_upto_region 5 with (fail)
      clear HNX
      have hw1 := iterPos_of HU.out.it
      have HW1 := Lib.hid hw1
      clear hw1
      generalize wr.iterAt (w.heap.size + 1) s (pos + wd) = W1 at *
      have kba : ∀ o, w.heap.size ≤ (W1.alloc o).heap.size := fun o => by have := HU2.out.bel.size; simp; omega
      by_cases h1 : c ≤ 65535
      · have he : enc c = [(c : Int)] := by unfold enc; rw [if_pos h1]
        have HE := Lib.hid he
        have k63 : n + 1 ≤ maxLen := by unfold maxLen; omega
        have kby : (n + 1) * 2 ≤ 140737488355328 := by omega
        clear he
        go_wp2_with (at_builtin; go_loud (refine wpList_append_own _ rfl (.tmp 16) (.tmp 19) 23 rfl w.heap.size 26 i0 (.int .u16 0) 1 2 Try.underlying23 HI0.out HZ0.out HZ1.out HZ2.out rfl (by decide) _ n (xs.map (Value.int .u16)) rfl (HU2.out.own.alloc _) ⟨W1.heap.size, 0, none⟩ 1 1 ([(c : Int)].map (Value.int .u16)) rfl rfl (news1 _ ((c : Int))) (ones _) k63 kby (kba _) ?_); intro v' w2 hown hgrow _)
        have HU3 := Lib.hid (HU2.out.app hown hgrow rfl)
        clear hown hgrow
        go_roundw
        case rel => exact ⟨pos + wd, n + 1, xs ++ [(c : Int)], by rw [← HE.out]; exact HUI2.out, HU3.out⟩
        case measure => rw [iterPos_of HU3.out.it, HW1.out]; omega
      · have h1' : 65536 ≤ c := by omega
        obtain ⟨x, y, hx, hy, q1, q2, q3, he⟩ := half h1' hcm
        have HE := Lib.hid he
        have k63 : n + 2 ≤ maxLen := by unfold maxLen; omega
        have kby : (n + 2) * 2 ≤ 140737488355328 := by omega
        clear he
        go_wp2_with (at_builtin; go_loud (refine wpList_append_own _ rfl (.tmp 23) (.tmp 33) 23 rfl w.heap.size 26 i0 (.int .u16 0) 1 2 Try.underlying23 HI0.out HZ0.out HZ1.out HZ2.out rfl (by decide) _ n (xs.map (Value.int .u16)) rfl (HU2.out.own.alloc _) ⟨W1.heap.size, 0, none⟩ 2 2 ([55296 + (x : Int), 56320 + (y : Int)].map (Value.int .u16)) rfl rfl (news2 _ (55296 + (x : Int)) ( 56320 + (y : Int))) (ones _) k63 kby (kba _) ?_); intro v' w2 hown hgrow _)
        have HU3 := Lib.hid (HU2.out.app hown hgrow rfl)
        clear hown hgrow
        go_roundw
        case rel => exact ⟨pos + wd, n + 2, xs ++ [55296 + (x : Int), 56320 + (y : Int)], by rw [← HE.out]; exact HUI2.out, HU3.out⟩
        case measure => rw [iterPos_of HU3.out.it, HW1.out]; omega
    · have hnx := fun ty => Lib.run_next_end_at (P := Try.prog) wr (w.heap.size + 1) s pos ty HU.out.it hlt
      have HX := Lib.hid (HUI.out.done hlt)
      go_wp2_with fail
      go_ret
      exact ⟨_, n, rfl, by rw [← HX.out]; exact HU.out.own, by rw [← HX.out]; exact HU.out.len, HU.out.bel⟩
end Go.Proofs.Ytmbeddbcinhleaa.ut
