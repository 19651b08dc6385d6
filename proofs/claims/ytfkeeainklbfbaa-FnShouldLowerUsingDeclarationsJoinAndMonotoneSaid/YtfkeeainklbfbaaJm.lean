/-
  The law on 'using' declarations: the walk.
-/
import Derived.Test.YtfkeeainklbfbaaSh
import Derived.OwnWalk
import Derived.Laws.OwnMore
namespace Go.Proofs.Ytfkeeainklbfbaa.us
open Go.ChangeShapes Go.WideShapes Go.ChangeAt Go.RowKit Go.Deep
set_option linter.unusedVariables false

def SomeBool (w : World) (e : Ending) (w' : World) : Prop := (∃ b, e = .returned (.bool b)) ∧ w = w'
def Yes (w : World) (e : Ending) (w' : World) : Prop := e = .returned (.bool true) ∧ Below w.heap.size w w'
theorem clone_all (w : World) (a : Option Addr) (len cap : Nat) (V : Nat → Int) (hl : len ≤ 1048576) (ha : a = none → len = 0 ∧ cap = 0) (hc : Row w a len fun i => .int .u8 (V i)) :
    Calls Try.prog 5 #[.slice a len cap] w fun e w' => ∃ a' c', e = .returned (.slice a' len c') ∧ Row w' a' len (fun i => .int .u8 (V i)) ∧ Below w.heap.size w w' := by
  cases a with
  | none =>
    obtain ⟨rfl, rfl⟩ := ha rfl
    refine (clone_nil w).mono ?_
    rintro e w' ⟨rfl, rfl⟩
    exact ⟨none, 0, rfl, fun h => by omega, Below.refl _ _⟩
  | some x =>
    have hcl : Cells w x len fun i => .int .u8 (V i) := by
      refine ⟨fun h0 => ?_, fun i hi => ?_⟩
      · obtain ⟨b, off, e, _⟩ := hc h0; cases e; rfl
      · obtain ⟨b, off, e, h⟩ := hc (by omega); cases e; exact h i hi
    refine (clone w x len cap V hl hcl).mono ?_
    rintro e w' ⟨rfl, rfl⟩
    refine ⟨_, _, rfl, fun h0 => ⟨_, _, rfl, fun i hi => ?_⟩, (Below.refl _ _).alloc (Nat.le_refl _) _⟩
    exact (Cells.made w len (fun i => .int .u8 (V i)) 5).2 i hi

theorem bytes4 (w : World) (a0 a1 : Option Addr) (l0 c0 l1 c1 : Nat) (f1 f2 : Int) (G : Bool) :
    Calls Try.prog 4 #[.slice a0 l0 c0, .slice a1 l1 c1, .int .u64 f1, .int .u64 f2, .bool G] w (SomeBool w) := by
  go_enter Try.func4, Try.ntmps4
  go_wp2
  all_goals (go_ret; exact ⟨⟨_, rfl⟩, rfl⟩)

def vals (Z : Nat → Int) (k : Nat) : List Value := (List.range k).map fun i => .int .u8 (Z i)
theorem vals_succ (Z : Nat → Int) (k : Nat) : vals Z (k + 1) = vals Z k ++ [.int .u8 (Z k)] := by simp [vals, List.range_succ]

theorem get_vals (Z : Nat → Int) (k i : Nat) (h : i < k) : (vals Z k)[i]? = some (.int .u8 (Z i)) := by simp [vals, h]
theorem length_vals (Z : Nat → Int) (k : Nat) : (vals Z k).length = k := by simp [vals]
def joined (Z0 Z1 : Nat → Int) (k i : Nat) : Int := if i < k then Z0 i else Z1 (i - k)
theorem row_joined {w : World} {B k j cap : Nat} {Z0 Z1 : Nat → Int} (h : w.ownsRow B 5 1 (.slice (some ⟨B, 0, none⟩) (k + j) cap) (k + j) (vals Z0 k ++ vals Z1 j)) :
    Row w (some ⟨B, 0, none⟩) (k + j) (fun i => .int .u8 (joined Z0 Z1 k i)) := by
  intro _
  refine ⟨B, 0, rfl, fun i hi => ?_⟩
  rw [Nat.zero_add, h.cellAt i (by omega)]
  show _ = some (Value.int .u8 (if i < k then Z0 i else Z1 (i - k)))
  by_cases e : i < k
  · rw [if_pos e, List.getElem?_append_left (by rw [length_vals]; exact e), get_vals _ _ _ e]
  · rw [if_neg e, List.getElem?_append_right (by rw [length_vals]; omega), length_vals, get_vals _ _ _ (by omega)]
theorem joined_bound {Z0 Z1 : Nat → Int} (h0 : ∀ i, 0 ≤ Z0 i ∧ Z0 i < 256) (h1 : ∀ i, 0 ≤ Z1 i ∧ Z1 i < 256) (k i : Nat) : 0 ≤ joined Z0 Z1 k i ∧ joined Z0 Z1 k i < 256 := by
  unfold joined; split
  · exact h0 _
  · exact h1 _
theorem any_joined (f : Int) (G : Bool) (Z0 Z1 : Nat → Int) (k j : Nat) : anyTo f G (joined Z0 Z1 k) (k + j) = (anyTo f G Z0 k || anyTo f G Z1 j) := by
  rw [Bool.eq_iff_iff]
  simp only [anyTo, Bool.or_eq_true, List.any_eq_true, List.mem_range]
  constructor
  · rintro ⟨i, hi, h⟩
    unfold joined at h
    by_cases e : i < k
    · rw [if_pos e] at h; exact .inl ⟨i, e, h⟩
    · rw [if_neg e] at h; exact .inr ⟨i - k, by omega, h⟩
  · rintro (⟨i, hi, h⟩ | ⟨i, hi, h⟩)
    · exact ⟨i, by omega, by unfold joined; rw [if_pos hi]; exact h⟩
    · exact ⟨k + i, by omega, by unfold joined; rw [if_neg (by omega), Nat.add_sub_cancel_left]; exact h⟩
theorem any_mono (f1 f2 : Int) (G : Bool) (Z : Nat → Int) (n : Nat) (h : anyTo f1 G Z n = true) : anyTo (bits .or .u64 f1 f2) G Z n = true := by
  simp only [anyTo, List.any_eq_true, List.mem_range] at *
  obtain ⟨i, hi, h⟩ := h
  exact ⟨i, hi, low_mono _ _ _ _ h⟩

/-- What stands in the world while the answers are asked for. -/
def Env (w0 : World) (b0 : Option Addr) (k : Nat) (Z0 : Nat → Int) (b1 : Option Addr) (j : Nat) (Z1 : Nat → Int) (B p1 p2 : Nat) (f1 f2 : Int) (G : Bool) (w : World) : Prop :=
  Row w b0 k (fun i => .int .u8 (Z0 i)) ∧ Row w b1 j (fun i => .int .u8 (Z1 i)) ∧ Row w (some ⟨B, 0, none⟩) (k + j) (fun i => .int .u8 (joined Z0 Z1 k i)) ∧ Par w p1 f1 G ∧ Par w p2 f2 G ∧ Below w0.heap.size w0 w
theorem Env.below {w0 : World} {b0 : Option Addr} {k : Nat} {Z0 : Nat → Int} {b1 : Option Addr} {j : Nat} {Z1 : Nat → Int} {B p1 p2 : Nat} {f1 f2 : Int} {G : Bool} {w w' : World}
    (h : Env w0 b0 k Z0 b1 j Z1 B p1 p2 f1 f2 G w) (hb : Below w.heap.size w w') : Env w0 b0 k Z0 b1 j Z1 B p1 p2 f1 f2 G w' :=
  ⟨h.1.below hb, h.2.1.below hb, h.2.2.1.below hb, h.2.2.2.1.below hb, h.2.2.2.2.1.below hb, h.2.2.2.2.2.trans (hb.mono h.2.2.2.2.2.size)⟩

set_option maxRecDepth 100000 in
set_option maxHeartbeats 4000000 in
theorem main (a0 : Option Addr) (l0 c0 : Nat) (Z0 : Nat → Int) (a1 : Option Addr) (l1 c1 : Nat) (Z1 : Nat → Int) (f1 f2 : Int) (G : Bool) (w : World)
    (n0 : a0 = none → l0 = 0 ∧ c0 = 0) (r0 : Row w a0 l0 fun i => .int .u8 (Z0 i)) (z0 : ∀ i, 0 ≤ Z0 i ∧ Z0 i < 256)
    (n1 : a1 = none → l1 = 0 ∧ c1 = 0) (r1 : Row w a1 l1 fun i => .int .u8 (Z1 i)) (z1 : ∀ i, 0 ≤ Z1 i ∧ Z1 i < 256) :
    Calls Try.prog 3 #[.slice a0 l0 c0, .slice a1 l1 c1, .int .u64 f1, .int .u64 f2, .bool G] w (Yes w) := by
  have N0 := Lib.hid n0
  have R0 := Lib.hid r0
  have ZZ0 := Lib.hid z0
  have N1 := Lib.hid n1
  have R1 := Lib.hid r1
  have ZZ1 := Lib.hid z1
  clear n0 r0 z0 n1 r1 z1
  obtain ⟨i0, hi, hi0, hi1, hi2⟩ := info_parts info5
  have HI := Lib.hid hi
  have HI0 := Lib.hid hi0
  have HI1 := Lib.hid hi1
  have HI2 := Lib.hid hi2
  clear hi hi0 hi1 hi2
  go_enter Try.func3, Try.ntmps3
  go_wp2_with fail
  refine (bytes4 w a0 a1 l0 c0 l1 c1 f1 f2 G).mono ?_
  rintro e w' ⟨⟨b, rfl⟩, rfl⟩
  cases b
  · go_simp
    go_wp2_with fail
    go_ret
    exact ⟨rfl, Below.refl _ _⟩
  by_cases g1 : l0 ≤ 65536
  rotate_left
  · go_simp
    go_wp2_with fail
    go_ret
    exact ⟨rfl, Below.refl _ _⟩
  by_cases g2 : l1 ≤ 65536
  rotate_left
  · go_simp
    go_wp2_with fail
    go_ret
    exact ⟨rfl, Below.refl _ _⟩
  go_simp
  go_wp2_with fail
  refine (clone_all w a0 l0 c0 Z0 (by omega) N0.out R0.out).mono ?_
  rintro e w1 ⟨b0, d0, rfl, hrow1, bel1⟩
  have RA := Lib.hid hrow1
  have BA := Lib.hid bel1
  clear hrow1 bel1
  go_simp
  go_wp2_with fail
  refine (clone_all w1 a1 l1 c1 Z1 (by omega) N1.out (R1.out.below BA.out)).mono ?_
  rintro e w2 ⟨b1, d1, rfl, hrow2, bel2⟩
  have RB := Lib.hid hrow2
  have BB := Lib.hid bel2
  clear hrow2 bel2
  go_simp
  go_wp2_with (at_make; refine wpList_make_own _ rfl _ _ 22 rfl w2.heap.size 5 i0 (.int .u8 0) 1 Try.underlying22 HI.out HI0.out HI1.out _ _ _ (l0 + l1) rfl rfl (by first | rfl | omega) (by rw [HI2.out]; omega) (by unfold maxLen; omega) (Nat.le_refl _) ?_; intro w3 hown3 hg3)
  have HO3 := Lib.hid hown3
  have BC := Lib.hid ((Below.refl w2.heap.size w2).grown hg3 (Nat.le_refl _) (by intro k h; cases h))
  clear hown3 hg3
  generalize hgB : w2.heap.size = B at *
  have HGB := Lib.hid hgB
  clear hgB
  go_loopw [11, 12] (fun s i wr => ∃ k : Nat, k ≤ l0 ∧ i = .int .i64 k ∧ s = .slice (some ⟨B, 0, none⟩) k (l0 + l1) ∧ wr.ownsRow B 5 1 (.slice (some ⟨B, 0, none⟩) k (l0 + l1)) k (vals Z0 k) ∧ Below B w2 wr) (fun s i _ => l0 - (intOf i).toNat)
  case atStart => exact ⟨0, by omega, rfl, rfl, HO3.out, BC.out⟩
  case round =>
    obtain ⟨k, hk, rfl, rfl, hown, hbel⟩ := hrel
    have HO := Lib.hid hown
    have HB := Lib.hid hbel
    clear hown hbel
    have hBW : Below w2.heap.size w2 wr := by rw [HGB.out]; exact HB.out
    have HBW := Lib.hid hBW
    clear hBW
    by_cases hlt : k < l0
    · obtain ⟨b, off, rfl, hcell⟩ := ((RA.out.below BB.out).below HBW.out) (by omega)
      have c1 := hcell k hlt
      clear hcell
      go_wp2_with (first | (at_builtin; refine wpList_append_fits _ rfl _ _ 22 rfl B 5 i0 1 Try.underlying22 HI.out HI1.out B k (l0 + l1) _ rfl (HO.out.alloc _) ⟨wr.heap.size, 0, none⟩ 1 1 [.int .u8 (Z0 k)] rfl rfl (cell_one_new _ _ _) (ints_oneCell .u8 [Z0 k]) (by omega) ?_; intro w4 hown4 hg4))
      have HO4 := Lib.hid hown4
      have HB4 := Lib.hid ((HB.out.alloc (by rw [← HGB.out]; exact HBW.out.size) _).grown hg4 (by have := HBW.out.size; rw [HGB.out] at this; simp; omega) (by intro j h; cases h; exact Nat.le_refl _))
      clear hown4 hg4
      go_wp2_with fail
      go_roundw
      case rel => exact ⟨k + 1, by omega, by go_num, rfl, by rw [vals_succ]; exact HO4.out, HB4.out⟩
      case measure => simp [intOf]; omega
    · obtain rfl : k = l0 := by omega
      go_wp2_with fail
      rename World => wl
      have HBL := HB
      clear HB
      go_loopw [11, 13] (fun s i wr => ∃ j : Nat, j ≤ l1 ∧ i = .int .i64 j ∧ s = .slice (some ⟨B, 0, none⟩) (k + j) (k + l1) ∧ wr.ownsRow B 5 1 (.slice (some ⟨B, 0, none⟩) (k + j) (k + l1)) (k + j) (vals Z0 k ++ vals Z1 j) ∧ Below B w2 wr) (fun s i _ => l1 - (intOf i).toNat)
      case atStart => exact ⟨0, by omega, rfl, rfl, by simpa [vals] using HO.out, HBL.out⟩
      case round =>
        obtain ⟨j, hj, rfl, rfl, hown, hbel⟩ := hrel
        have HO2 := Lib.hid hown
        have HB := Lib.hid hbel
        clear hown hbel
        have hBW : Below w2.heap.size w2 wr := by rw [HGB.out]; exact HB.out
        have HBW2 := Lib.hid hBW
        clear hBW
        by_cases hlt2 : j < l1
        · obtain ⟨b, off, rfl, hcell⟩ := (RB.out.below HBW2.out) (by omega)
          have c1 := hcell j hlt2
          clear hcell
          go_wp2_with (first | (at_builtin; refine wpList_append_fits _ rfl _ _ 22 rfl B 5 i0 1 Try.underlying22 HI.out HI1.out B (k + j) (k + l1) _ rfl (HO2.out.alloc _) ⟨wr.heap.size, 0, none⟩ 1 1 [.int .u8 (Z1 j)] rfl rfl (cell_one_new _ _ _) (ints_oneCell .u8 [Z1 j]) (by omega) ?_; intro w4 hown4 hg4))
          have HO4 := Lib.hid hown4
          have HB4 := Lib.hid ((HB.out.alloc (by rw [← HGB.out]; exact HBW2.out.size) _).grown hg4 (by have := HBW2.out.size; rw [HGB.out] at this; simp; omega) (by intro j h; cases h; exact Nat.le_refl _))
          clear hown4 hg4
          go_wp2_with fail
          go_roundw
          case rel => exact ⟨j + 1, by omega, by go_num, by rw [Nat.add_assoc], by rw [vals_succ, ← List.append_assoc, ← Nat.add_assoc]; exact HO4.out, HB4.out⟩
          case measure => simp [intOf]; omega
        · obtain rfl : j = l1 := by omega
          have RAB := Lib.hid (row_joined HO2.out)
          have R0W := Lib.hid ((RA.out.below BB.out).below HBW2.out)
          have R1W := Lib.hid (RB.out.below HBW2.out)
          have BW := Lib.hid ((BA.out.trans (BB.out.mono BA.out.size)).trans (HBW2.out.mono (Nat.le_trans BA.out.size BB.out.size)))
          go_wp2_with fail
          refine (newP wr f1 G false).mono ?_
          rintro e wa ⟨p1, rfl, hp1, bela⟩
          have HP1 := Lib.hid hp1
          have HBa := Lib.hid bela
          clear hp1 bela
          go_simp
          go_wp2_with fail
          refine (newP wa (bits .or .u64 f1 f2) G false).mono ?_
          rintro e wb ⟨p2, rfl, hp2, belb⟩
          have hbb : Below wr.heap.size wr wb := HBa.out.trans (belb.mono HBa.out.size)
          have E0 : Hid (Env w b0 k Z0 b1 j Z1 B p1 p2 f1 (bits .or .u64 f1 f2) G wb) := Lib.hid
            ⟨R0W.out.below hbb, R1W.out.below hbb, RAB.out.below hbb, HP1.out.below belb, hp2, BW.out.trans (hbb.mono BW.out.size)⟩
          clear hp2 belb hbb RAB R0W R1W BW HP1 HBa
          go_simp
          go_wp2_with fail
          refine (stmts wb b0 (k) d0 (Z0) (by omega) ZZ0.out E0.out.1).mono ?_
          rintro e wc ⟨S0, rfl, rfl, hs⟩
          have HS0 := Lib.hid hs
          have hbl : Below wb.heap.size wb wc := by obtain ⟨_, _, h, _⟩ := hs; exact h
          have EE0 := Lib.hid (E0.out.below hbl)
          clear hs hbl
          go_simp
          go_wp2_with fail
          refine (should wb wc p1 _ G _ (k) (Z0) (by omega) EE0.out.2.2.2.1 HS0.out).mono ?_
          rintro e wd ⟨rfl, hbl⟩
          have E1 := Lib.hid (EE0.out.below hbl)
          clear hbl
          go_simp
          go_wp2_with fail
          refine (stmts wd b1 (j) d1 (Z1) (by omega) ZZ1.out E1.out.2.1).mono ?_
          rintro e we ⟨S1, rfl, rfl, hs⟩
          have HS1 := Lib.hid hs
          have hbl : Below wd.heap.size wd we := by obtain ⟨_, _, h, _⟩ := hs; exact h
          have EE1 := Lib.hid (E1.out.below hbl)
          clear hs hbl
          go_simp
          go_wp2_with fail
          refine (should wd we p1 _ G _ (j) (Z1) (by omega) EE1.out.2.2.2.1 HS1.out).mono ?_
          rintro e wf ⟨rfl, hbl⟩
          have E2 := Lib.hid (EE1.out.below hbl)
          clear hbl
          go_simp
          go_wp2_with fail
          refine (stmts wf _ (k + j) (k + j) (joined Z0 Z1 k) (by omega) (joined_bound ZZ0.out ZZ1.out k) E2.out.2.2.1).mono ?_
          rintro e wg ⟨S2, rfl, rfl, hs⟩
          have HS2 := Lib.hid hs
          have hbl : Below wf.heap.size wf wg := by obtain ⟨_, _, h, _⟩ := hs; exact h
          have EE2 := Lib.hid (E2.out.below hbl)
          clear hs hbl
          go_simp
          go_wp2_with fail
          refine (should wf wg p1 _ G _ (k + j) (joined Z0 Z1 k) (by omega) EE2.out.2.2.2.1 HS2.out).mono ?_
          rintro e wh ⟨rfl, hbl⟩
          have E3 := Lib.hid (EE2.out.below hbl)
          clear hbl
          rw [any_joined]
          cases hab : (anyTo f1 G Z0 k || anyTo f1 G Z1 j) with
          | false =>
            have HAB := Lib.hid hab
            obtain ⟨q0, q1⟩ : anyTo f1 G Z0 k = false ∧ anyTo f1 G Z1 j = false := by simpa using hab
            clear hab
            rw [q0, q1]
            go_simp
            go_wp2_with fail
            go_ret
            exact ⟨rfl, E3.out.2.2.2.2.2⟩
          | true =>
            have HM := Lib.hid (any_mono f1 f2 G (joined Z0 Z1 k) (k + j) (by rw [any_joined]; exact hab))
            have HAB := Lib.hid hab
            clear hab
            cases q0 : anyTo f1 G Z0 k with
            | true =>
              clear q0
              go_simp
              go_wp2_with fail
              refine (stmts wh _ (k + j) (k + j) (joined Z0 Z1 k) (by omega) (joined_bound ZZ0.out ZZ1.out k) E3.out.2.2.1).mono ?_
              rintro e wi ⟨S3, rfl, rfl, hs⟩
              have HS3 := Lib.hid hs
              have hbl : Below wh.heap.size wh wi := by obtain ⟨_, _, h, _⟩ := hs; exact h
              have EE3 := Lib.hid (E3.out.below hbl)
              clear hs hbl
              go_simp
              go_wp2_with fail
              refine (should wh wi p2 _ G _ (k + j) (joined Z0 Z1 k) (by omega) EE3.out.2.2.2.2.1 HS3.out).mono ?_
              rintro e wj ⟨rfl, hbl⟩
              have E4 := Lib.hid (EE3.out.below hbl)
              clear hbl
              rw [HM.out]
              go_simp
              go_wp2_with fail
              go_ret
              exact ⟨rfl, E4.out.2.2.2.2.2⟩
            | false =>
              have q1 : anyTo f1 G Z1 j = true := by have := HAB.out; rw [q0] at this; simpa using this
              rw [q1]
              clear q0 q1
              go_simp
              go_wp2_with fail
              refine (stmts wh _ (k + j) (k + j) (joined Z0 Z1 k) (by omega) (joined_bound ZZ0.out ZZ1.out k) E3.out.2.2.1).mono ?_
              rintro e wi ⟨S3, rfl, rfl, hs⟩
              have HS3 := Lib.hid hs
              have hbl : Below wh.heap.size wh wi := by obtain ⟨_, _, h, _⟩ := hs; exact h
              have EE3 := Lib.hid (E3.out.below hbl)
              clear hs hbl
              go_simp
              go_wp2_with fail
              refine (should wh wi p2 _ G _ (k + j) (joined Z0 Z1 k) (by omega) EE3.out.2.2.2.2.1 HS3.out).mono ?_
              rintro e wj ⟨rfl, hbl⟩
              have E4 := Lib.hid (EE3.out.below hbl)
              clear hbl
              rw [HM.out]
              go_simp
              go_wp2_with fail
              go_ret
              exact ⟨rfl, E4.out.2.2.2.2.2⟩
end Go.Proofs.Ytfkeeainklbfbaa.us
