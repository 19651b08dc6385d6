/-
  zzUTF16 and zzU16Equal walked; the helpers.
-/
import Derived.Test.YtjhmdagdmclknaaUb
import Derived.Deep.RegionHeld3
namespace Go.Proofs.Ytjhmdagdmclknaa.ut
open Go.ChangeShapes Go.WideShapes Go.ChangeAt Go.RowKit Go.Deep Go.Proofs.Ytjhmdagdmclknaa.u8
set_option linter.unusedVariables false
set_option linter.unusedSimpArgs false

theorem or_lo (a x : Nat) (ha : a < 2000) (h : x < 1024) : bits .or .i32 ((a * 1024 : Nat) : Int) (x : Int) = ((a * 1024 : Nat) : Int) + (x : Int) := by
  have h1 : (a * 1024) ||| x = a * 1024 + x := by
    have := nat_join 10 (a * 1024) x (by omega) (by omega)
    simpa using this
  have hx : (a * 1024) ||| x < 2 ^ 31 := by rw [h1]; omega
  show IntKind.i32.wrap ((BitVec.ofInt 32 ((a * 1024 : Nat) : Int) ||| BitVec.ofInt 32 (x : Int)).toNat : Int) = _
  rw [BitVec.toNat_or]
  have e1 : (BitVec.ofInt 32 ((a * 1024 : Nat) : Int)).toNat = a * 1024 := by
    rw [BitVec.ofInt_natCast, BitVec.toNat_ofNat]; exact Nat.mod_eq_of_lt (by omega)
  have e2 : (BitVec.ofInt 32 (x : Int)).toNat = x := by
    rw [BitVec.ofInt_natCast, BitVec.toNat_ofNat]; exact Nat.mod_eq_of_lt (by omega)
  rw [e1, e2, h1, IntKind.wrap_i32]
  omega
theorem or54 (x : Nat) (h : x ≤ 1023) : bits .or .i32 55296 (x : Int) = 55296 + (x : Int) := or_lo 54 x (by omega) (by omega)
theorem or55 (x : Nat) (h : x ≤ 1023) : bits .or .i32 56320 (x : Int) = 56320 + (x : Int) := or_lo 55 x (by omega) (by omega)

set_option maxRecDepth 100000 in
set_option maxHeartbeats 4000000 in
theorem zz19 (w : World) (s : ByteArray) (hs : s.size ≤ 1048576) : Calls Try.prog 19 #[.string s] w (UsP w (us s s.size 0)) := by
  obtain ⟨i0, hi, hz⟩ := Option.map_eq_some_iff.1 infoE
  simp only [Prod.mk.injEq] at hz
  obtain ⟨hz0, hz1, hz2⟩ := hz
  have HI0 := Lib.hid hi
  have HZ0 := Lib.hid hz0
  have HZ1 := Lib.hid hz1
  have HZ2 := Lib.hid hz2
  clear hi hz0 hz1 hz2
  have hmk := make0 w s.size hs
  go_enter Try.func19, Try.ntmps19
  go_wp2_with fail
  clear hmk
  have hst : Us w ((w.alloc (.cells (madeCells #[.int .u16 0] s.size) 182)).iter s 0) s (w.heap.size + 1) (.slice (some ⟨w.heap.size, 0, none⟩) 0 s.size) 0 0 [] := by
    refine ⟨?_, ?_, ((Below.refl _ _).alloc (Nat.le_refl _) _).alloc (by simp) _, by omega, rfl⟩
    · have := World.iter_heap (w.alloc (.cells (madeCells #[.int .u16 0] s.size) 182)) s 0
      simpa using this
    · exact (World.ownsRow_made w (madeCells #[.int .u16 0] s.size) s.size (Nat.le_refl _) (by unfold maxLen; omega) (made_size _)).alloc _
  have HST := Lib.hid hst
  clear hst
  go_loopw [3] (fun v wr => ∃ (pos n : Nat) (xs : List Int), Ui s pos xs ∧ Us w wr s (w.heap.size + 1) v n pos xs) (fun _ wr => s.size - wr.iterPos (w.heap.size + 1))
  case atStart => exact ⟨0, 0, [], Ui.start s, HST.out⟩
  case round =>
    clear HST
    rename World => wr
    obtain ⟨pos, n, xs, hui, hus⟩ := hrel
    have HUI := Lib.hid hui
    have HU := Lib.hid hus
    have hlen : n ≤ 2 * pos ∧ pos ≤ s.size := by
      obtain ⟨b, _, _, h3, h4⟩ := hui
      have := hus.len
      omega
    obtain ⟨n1, n2⟩ := hlen
    clear hui hus
    by_cases hlt : pos < s.size
    · obtain ⟨c, hc⟩ : ∃ c, (Utf8.decode s pos).1 = c := ⟨_, rfl⟩
      obtain ⟨wd, hwd⟩ : ∃ wd, (Utf8.decode s pos).2 = wd := ⟨_, rfl⟩
      have hfit := fits s pos hlt
      have hg := dec_max s pos
      rw [hc] at hg
      rw [hwd] at hfit
      unfold GoodR at hg
      have hcm : c ≤ 1114111 := by omega
      obtain ⟨f1, f2⟩ := hfit
      have HNX := fun ty => Lib.run_next_any_at (P := Try.prog) wr (w.heap.size + 1) s pos ty HU.out.it hlt
      simp only [hc, hwd] at HNX
      have HU2 := Lib.hid (HU.out.next (pos + wd))
      have HUI2 := Lib.hid (HUI.out.step hlt hc hwd)
      clear hg hc hwd
      go_upto_region 5 with (fail)
      clear HNX
      have hw1 := iterPos_of HU.out.it
      have HW1 := Lib.hid hw1
      clear hw1
      generalize wr.iterAt (w.heap.size + 1) s (pos + wd) = W1 at *
      have kba : ∀ o, w.heap.size ≤ (W1.alloc o).heap.size := fun o => by have := HU2.out.bel.size; simp; omega
      by_cases h1 : c ≤ 65535
      · have he : enc c = [(c : Int)] := by unfold enc; rw [if_pos h1]
        have HE := Lib.hid he
        have d1 : decide ((c : Int) < 65536) = true := by simp; omega
        have k63 : n + 1 ≤ maxLen := by unfold maxLen; omega
        have kby : (n + 1) * 2 ≤ 140737488355328 := by omega
        clear he
        go_wp2_with (at_builtin; go_loud (refine wpList_append_own _ rfl (.tmp 17) (.tmp 20) 35 rfl w.heap.size 182 i0 (.int .u16 0) 1 2 Try.underlying35 HI0.out HZ0.out HZ1.out HZ2.out rfl (by decide) _ n (xs.map (Value.int .u16)) rfl (HU2.out.own.alloc _) ⟨W1.heap.size, 0, none⟩ 1 1 ([(c : Int)].map (Value.int .u16)) rfl rfl (news1 _ ((c : Int))) (ones _) k63 kby (kba _) ?_); intro v' w2 hown hgrow _)
        have HU3 := Lib.hid (HU2.out.app hown hgrow rfl)
        clear hown hgrow
        go_roundw
        case rel => exact ⟨pos + wd, n + 1, xs ++ [(c : Int)], by rw [← HE.out]; exact HUI2.out, HU3.out⟩
        case measure => rw [iterPos_of HU3.out.it, HW1.out]; omega
      · obtain ⟨x, y, hx, hy, q1, q2, q3, he⟩ := half (c := c) (by omega) hcm
        have h1' : 65535 < c := by omega
        have d1 : decide ((c : Int) < 65536) = false := by simp; omega
        clear h1
        have o1 := or54 x hx
        have o2 := or55 y hy
        have HE := Lib.hid he
        have k63 : n + 1 ≤ maxLen := by unfold maxLen; omega
        have kby : (n + 1) * 2 ≤ 140737488355328 := by omega
        have k63b : n + 1 + 1 ≤ maxLen := by unfold maxLen; omega
        have kbyb : (n + 1 + 1) * 2 ≤ 140737488355328 := by omega
        clear he
        go_upto_region 9 with (at_builtin; go_loud (refine wpList_append_own _ rfl (.tmp 24) (.tmp 29) 35 rfl w.heap.size 182 i0 (.int .u16 0) 1 2 Try.underlying35 HI0.out HZ0.out HZ1.out HZ2.out rfl (by decide) _ n (xs.map (Value.int .u16)) rfl (HU2.out.own.alloc _) ⟨W1.heap.size, 0, none⟩ 1 1 ([55296 + (x : Int)].map (Value.int .u16)) rfl rfl (news1 _ (55296 + (x : Int))) (ones _) k63 kby (kba _) ?_); intro v' w2 hown hgrow _)
        have HU3 := Lib.hid (HU2.out.app hown hgrow rfl)
        clear hown hgrow
        have kbb : ∀ o, w.heap.size ≤ (w2.alloc o).heap.size := fun o => by have := HU3.out.bel.size; simp; omega
        go_wp2_with (at_builtin; go_loud (refine wpList_append_own _ rfl (.tmp 31) (.tmp 36) 35 rfl w.heap.size 182 i0 (.int .u16 0) 1 2 Try.underlying35 HI0.out HZ0.out HZ1.out HZ2.out rfl (by decide) _ (n + 1) ((xs ++ [55296 + (x : Int)]).map (Value.int .u16)) rfl (HU3.out.own.alloc _) ⟨w2.heap.size, 0, none⟩ 1 1 ([56320 + (y : Int)].map (Value.int .u16)) rfl rfl (news1 _ (56320 + (y : Int))) (ones _) k63b kbyb (kbb _) ?_); intro v4 w4 hown hgrow _)
        have HU4 := Lib.hid (HU3.out.app hown hgrow rfl)
        clear hown hgrow
        go_roundw
        case rel => exact ⟨pos + wd, n + 1 + 1, xs ++ [55296 + (x : Int)] ++ [56320 + (y : Int)], by rw [List.append_assoc]; show Ui s (pos + wd) (xs ++ [55296 + (x : Int), 56320 + (y : Int)]); rw [← HE.out]; exact HUI2.out, HU4.out⟩
        case measure => rw [iterPos_of HU4.out.it, HW1.out]; omega
    · have hnx := fun ty => Lib.run_next_end_at (P := Try.prog) wr (w.heap.size + 1) s pos ty HU.out.it hlt
      have HX := Lib.hid (HUI.out.done hlt)
      go_wp2_with fail
      go_ret
      exact ⟨_, n, rfl, by rw [← HX.out]; exact HU.out.own, by rw [← HX.out]; exact HU.out.len, HU.out.bel⟩

/-- A slice of n elements, V i at place i; of an empty one nothing is said. -/
def Row (w : World) (a : Option Addr) (n : Nat) (V : Nat → Value) : Prop := 0 < n → ∃ b off, a = some ⟨b, off, none⟩ ∧ ∀ i, i < n → w.cell? ⟨b, off + i, none⟩ = some (V i)
theorem Row.below {w w' : World} {a : Option Addr} {n : Nat} {V : Nat → Value} (h : Row w a n V) (hb : Below w.heap.size w w') : Row w' a n V := by
  intro h0
  obtain ⟨b, off, rfl, hc⟩ := h h0
  refine ⟨b, off, rfl, fun i hi => ?_⟩
  have h1 := hc i hi
  exact (hb.cell (p := ⟨b, off + i, none⟩) (block_lt_of_cell h1)).trans h1
/-- A slice that holds the numbers xs. -/
def Li (w : World) (v : Value) (xs : List Int) : Prop := ∃ a c, v = .slice a xs.length c ∧ Row w a xs.length (fun i => .int .u16 (xs.getD i 0))
theorem Li.below {w w' : World} {v : Value} {xs : List Int} (h : Li w v xs) (hb : Below w.heap.size w w') : Li w' v xs := by
  obtain ⟨a, c, e, h⟩ := h
  exact ⟨a, c, e, h.below hb⟩
theorem Li.of_own {w : World} {base n : Nat} {v : Value} {xs : List Int} (h : w.ownsRow base 182 1 v n (xs.map (Value.int .u16))) (hn : n = xs.length) : Li w v xs := by
  subst hn
  obtain ⟨_, h⟩ := h
  rcases h with ⟨rfl, h0⟩ | ⟨g, cap, cur, rfl, _, hg, hle, _, hsz, htake⟩
  · exact ⟨none, 0, by rw [h0], fun h => by omega⟩
  · refine ⟨_, cap, rfl, fun _ => ⟨g, 0, rfl, fun i hi => ?_⟩⟩
    rw [cell_of_row _ g (0 + i) _ _ _ hg, Nat.zero_add]
    have h1 : (cur.toList.take (xs.length * 1))[i]? = (xs.map (Value.int .u16))[i]? := by rw [htake]
    rw [Nat.mul_one, List.getElem?_take, if_pos hi, Array.getElem?_toList] at h1
    rw [h1, List.getElem?_map]
    simp only [List.getD_eq_getElem?_getD, List.getElem?_eq_getElem hi]
    rfl
/-- The same, its block not below base. -/
def LiB (base : Nat) (w : World) (v : Value) (xs : List Int) : Prop := ∃ a c, v = .slice a xs.length c ∧ (0 < xs.length → ∃ b off, a = some ⟨b, off, none⟩ ∧ base ≤ b ∧ ∀ i, i < xs.length → w.cell? ⟨b, off + i, none⟩ = some (.int .u16 (xs.getD i 0)))
theorem LiB.keep {base : Nat} {w w' : World} {v : Value} {xs : List Int} (h : LiB base w v xs) (e : ∀ q, base ≤ q → q < w.heap.size → w'.heap[q]? = w.heap[q]?) : Li w' v xs := by
  obtain ⟨a, c, rfl, h⟩ := h
  refine ⟨a, c, rfl, fun h0 => ?_⟩
  obtain ⟨b, off, rfl, hb, hc⟩ := h h0
  refine ⟨b, off, rfl, fun i hi => ?_⟩
  have h1 := hc i hi
  exact (World.cell?_of_block (a := ⟨b, off + i, none⟩) (e b hb (block_lt_of_cell h1))).trans h1
theorem LiB.of_own {w : World} {base n : Nat} {v : Value} {xs : List Int} (h : w.ownsRow base 182 1 v n (xs.map (Value.int .u16))) (hn : n = xs.length) : LiB base w v xs := by
  have h2 := Li.of_own h hn
  obtain ⟨a, c, rfl, h3⟩ := h2
  refine ⟨a, c, rfl, fun h0 => ?_⟩
  obtain ⟨b, off, rfl, hc⟩ := h3 h0
  exact ⟨b, off, rfl, (h.lt b rfl).1, hc⟩
theorem s2u (w : World) (s : ByteArray) (hs : s.size ≤ 1048576) : Calls Try.prog 21 #[.string s] w fun e w' => (∃ v, e = .returned v ∧ LiB w.heap.size w' v (us s s.size 0)) ∧ Below w.heap.size w w' :=
  (s2u21 w s hs).mono fun _ _ ⟨v, n, e, h1, h2, h3⟩ => ⟨⟨v, e, LiB.of_own h1 h2⟩, h3⟩
theorem zz (w : World) (s : ByteArray) (hs : s.size ≤ 1048576) : Calls Try.prog 19 #[.string s] w fun e w' => (∃ v, e = .returned v ∧ LiB w.heap.size w' v (us s s.size 0)) ∧ Below w.heap.size w w' :=
  (zz19 w s hs).mono fun _ _ ⟨v, n, e, h1, h2, h3⟩ => ⟨⟨v, e, LiB.of_own h1 h2⟩, h3⟩
theorem us_len (s : ByteArray) : (us s s.size 0).length ≤ 2 * s.size := by
  have key : ∀ b pos, pos ≤ s.size → (us s b pos).length + 2 * pos ≤ 2 * s.size := by
    intro b
    induction b with
    | zero => intro pos h; simp [us]; omega
    | succ b ih =>
      intro pos h
      rw [us]
      split
      · rename_i hp
        have hf := fits s pos hp
        have h1 := ih (pos + (Utf8.decode s pos).2) hf.2
        have h2 := enc_len (Utf8.decode s pos).1
        rw [List.length_append]; omega
      · simp; omega
  have := key s.size 0 (by omega)
  omega
set_option maxHeartbeats 1000000 in
theorem eq18 (w : World) (a b : Option Addr) (ca cb : Nat) (xs : List Int) (hl : xs.length ≤ 4194304) (h1 : Row w a xs.length (fun i => .int .u16 (xs.getD i 0))) (h2 : Row w b xs.length (fun i => .int .u16 (xs.getD i 0))) :
    Calls Try.prog 18 #[.slice a xs.length ca, .slice b xs.length cb] w fun e w' => e = .returned (.bool true) ∧ Below w.heap.size w w' := by
  have H1 := Lib.hid h1
  have H2 := Lib.hid h2
  clear h1 h2
  generalize xs.length = n at *
  have en : ((n : Int) != (n : Int)) = false := by simp
  go_enter Try.func18, Try.ntmps18
  go_wp2_with fail
  go_loopw [5] (fun i wr => ∃ k : Nat, k ≤ n ∧ i = .int .i64 k ∧ Below w.heap.size w wr) (fun i _ => n - (intOf i).toNat)
  case atStart => exact ⟨0, by omega, rfl, Below.refl _ _⟩
  case round =>
    obtain ⟨k, hk, rfl, hB⟩ := hrel
    have HB := Lib.hid hB
    clear hB
    by_cases hlt : k < n
    · obtain ⟨b1, o1, e1, hc1⟩ := H1.out.below HB.out (by omega)
      obtain ⟨b2, o2, e2, hc2⟩ := H2.out.below HB.out (by omega)
      cases e1
      cases e2
      have c1 := hc1 k hlt
      have c2 := hc2 k hlt
      have ex : (xs.getD k 0 != xs.getD k 0) = false := by simp
      clear hc1 hc2
      generalize xs.getD k 0 = x at *
      go_wp2_with fail
      go_region
      go_wp2_with fail
      go_roundw
      case rel => exact ⟨k + 1, by omega, by go_num, HB.out.drew⟩
      case measure => simp [intOf]; omega
    · obtain rfl : k = n := by omega
      go_wp2_with fail
      go_ret
      exact ⟨rfl, HB.out⟩
end Go.Proofs.Ytjhmdagdmclknaa.ut
