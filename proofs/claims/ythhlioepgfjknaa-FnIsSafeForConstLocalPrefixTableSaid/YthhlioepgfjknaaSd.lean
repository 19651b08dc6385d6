/-
  Safe expressions: an array of items walked.
-/
import Derived.Test.YthhlioepgfjknaaSc
namespace Go.Proofs.Ythhlioepgfjknaa.sf
open Go.ChangeShapes Go.WideShapes Go.ChangeAt Go.RowKit Go.Deep
set_option linter.unusedVariables false
set_option linter.unusedSimpArgs false

def Hd2 (w0 wr : World) (n k bn : Nat) (ln : Int) (sn : Bool) (F : Nat → It) (s : Nat → Bool) : Prop := Hd w0 wr (w0.heap.size + 1) n k 2 F s ∧ w0.heap.size < wr.heap.size ∧ wr.cell? ⟨w0.heap.size, 0, none⟩ = some (.iface 200 (.pointer (some ⟨bn, 0, none⟩))) ∧ wr.cell? ⟨w0.heap.size, 1, none⟩ = some (.int .i32 ln)
theorem Hd2.below {w0 wr w2 : World} {n k bn : Nat} {ln : Int} {sn : Bool} {F : Nat → It} {s : Nat → Bool} (h : Hd2 w0 wr n k bn ln sn F s) (hb : Below wr.heap.size wr w2) : Hd2 w0 w2 n k bn ln sn F s := by
  obtain ⟨h1, h2, h3, h4⟩ := h
  exact ⟨h1.below hb, Nat.lt_of_lt_of_le h2 hb.size, (hb.cell (p := ⟨w0.heap.size, 0, none⟩) h2).trans h3, (hb.cell (p := ⟨w0.heap.size, 1, none⟩) h2).trans h4⟩
theorem Hd2.drew {w0 wr : World} {n k bn : Nat} {ln : Int} {sn : Bool} {F : Nat → It} {s : Nat → Bool} (h : Hd2 w0 wr n k bn ln sn F s) : Hd2 w0 wr.drew n k bn ln sn F s := h.below ⟨rfl, rfl, rfl, Nat.le_refl _, fun _ _ => rfl⟩
theorem Hd2.put {w0 wr : World} {n k bn : Nat} {ln : Int} {sn : Bool} {F : Nat → It} {s : Nat → Bool} (h : Hd2 w0 wr n k bn ln sn F s) {T b : Nat} {l : Int} (hS : Sf (fun q => q ≠ w0.heap.size + 1 + 1 ∧ q ≠ w0.heap.size + 1) wr 2 T b (s k)) :
    Hd2 w0 (It.put wr (w0.heap.size + 1 + 1) k ⟨.iface T (.pointer (some ⟨b, 0, none⟩)), l⟩) n (k + 1) bn ln sn (fun q => if q = k then ⟨.iface T (.pointer (some ⟨b, 0, none⟩)), l⟩ else F q) s := by
  obtain ⟨h1, h2, h3, h4⟩ := h
  have ho := It.put_only wr (w0.heap.size + 1 + 1) k ⟨.iface T (.pointer (some ⟨b, 0, none⟩)), l⟩
  have e := ho.2.1 w0.heap.size (by omega)
  exact ⟨h1.put hS, by rw [ho.1]; exact h2, (World.cell?_of_block (a := ⟨w0.heap.size, 0, none⟩) e).trans h3, (World.cell?_of_block (a := ⟨w0.heap.size, 1, none⟩) e).trans h4⟩
theorem resC_start (X : World) (C : Obj) : ResC ((X.alloc (.cells #[.nilIface, .int .i32 0] 30)).alloc C) X.heap.size := ⟨by simp; omega, by simp, by simp, by simp, by simp⟩
theorem box_start (w : World) (x y : Value) (B C : Obj) : (((w.alloc (.cells #[x, y] 30)).alloc B).alloc C).cell? ⟨w.heap.size, 0, none⟩ = some x ∧ (((w.alloc (.cells #[x, y] 30)).alloc B).alloc C).cell? ⟨w.heap.size, 1, none⟩ = some y := by
  have hb := ((Below.refl (w.alloc (.cells #[x, y] 30)).heap.size (w.alloc (.cells #[x, y] 30))).alloc (Nat.le_refl _) B).alloc (by simp) C
  exact ⟨(hb.cell (p := ⟨w.heap.size, 0, none⟩) (by simp)).trans (by simp), (hb.cell (p := ⟨w.heap.size, 1, none⟩) (by simp)).trans (by simp)⟩
theorem item22x {w w' : World} {n k bn : Nat} {ln z : Int} {sn : Bool} {F : Nat → It} {s : Nat → Bool} (HN : Sf (fun _ => True) w 2 200 bn sn) (z0 : 0 ≤ z) (z1 : z < 256) (h : Hd2 w w' n k bn ln sn F s) :
    Calls Try.prog 22 #[.int .u8 z, .agg #[.iface 200 (.pointer (some ⟨bn, 0, none⟩)), .int .i32 ln]] w' (ItP (fun q => q ≠ w.heap.size + 1 + 1 ∧ q ≠ w.heap.size + 1) w' (is z sn)) :=
  item22 w' z z0 z1 _ (fun q hq => by have := h.1.row.lt; have := h.1.res.lt; constructor <;> omega) bn ln sn ((HN.imp (fun q hq _ => by constructor <;> omega)).below h.1.bel)
def Look (w' : World) (w0s b off k : Nat) (z : Int) (bn : Nat) (ln : Int) : Prop := w'.cell? ⟨b, off + k, none⟩ = some (.int .u8 z) ∧ w'.cell? ⟨w0s, 0, none⟩ = some (.iface 200 (.pointer (some ⟨bn, 0, none⟩))) ∧ w'.cell? ⟨w0s, 1, none⟩ = some (.int .i32 ln)
theorem look {w0 w' : World} {n k bn b off : Nat} {ln z : Int} {sn : Bool} {F : Nat → It} {s : Nat → Bool} (h : Hd2 w0 w' n k bn ln sn F s) (hc : w0.cell? ⟨b, off + k, none⟩ = some (.int .u8 z)) : Look w' w0.heap.size b off k z bn ln :=
  ⟨(h.1.bel.cell (p := ⟨b, off + k, none⟩) (block_lt_of_cell hc)).trans hc, h.2.2.1, h.2.2.2⟩
theorem below2 {w1 w : World} {g : Nat} (h : Below g w1 w) (a b : Nat) (x y : Value) : Below g w1 ((w.setCell ⟨g, a, none⟩ x).setCell ⟨g, b, none⟩ y) :=
  Below.setCell (Below.setCell h (by exact Nat.le_refl _) _) (by exact Nat.le_refl _) _
theorem belx {g : Nat} {a W w' : World} (h : Below g a W) (hg : g ≤ a.heap.size) (hb : Below W.heap.size W w') : Below g a w' := h.trans (hb.mono (Nat.le_trans hg h.size))
theorem keepB {g w0s bn b off k : Nat} {ln z : Int} {wr : World} (L : ∀ w', Below g wr w' → Look w' w0s b off k z bn ln) {w' : World} (h : Below g wr w') :
    w'.cell? ⟨b, off + k, none⟩ = some (.int .u8 z) ∧ w'.cell? ⟨w0s, 0, none⟩ = some (.iface 200 (.pointer (some ⟨bn, 0, none⟩))) ∧ w'.cell? ⟨w0s, 1, none⟩ = some (.int .i32 ln) ∧ Below g wr w' := ⟨(L w' h).1, (L w' h).2.1, (L w' h).2.2, h⟩
theorem lookB {w0 wr : World} {n k bn b off : Nat} {ln z : Int} {sn : Bool} {F : Nat → It} {s : Nat → Bool} (h : Hd2 w0 wr n k bn ln sn F s) (hc : w0.cell? ⟨b, off + k, none⟩ = some (.int .u8 z)) : ∀ w', Below (w0.heap.size + 1 + 1) wr w' → Look w' w0.heap.size b off k z bn ln := fun w' hb => by
  obtain ⟨c1, c2, c3⟩ := look h hc
  have := block_lt_of_cell hc
  exact ⟨(hb.cell (p := ⟨b, off + k, none⟩) (by simp at this; show b < _; omega)).trans c1, (hb.cell (p := ⟨w0.heap.size, 0, none⟩) (by show w0.heap.size < _; omega)).trans c2, (hb.cell (p := ⟨w0.heap.size, 1, none⟩) (by show w0.heap.size < _; omega)).trans c3⟩
set_option maxHeartbeats 4000000 in
theorem arr24 (w : World) (a : Option Addr) (n cap : Nat) (Z : Nat → Int) (hn : n ≤ 65536) (h : U8s w a n Z) (bn : Nat) (ln : Int) (sn : Bool) (hs : Sf (fun _ => True) w 2 200 bn sn) :
    Calls Try.prog 24 #[.slice a n cap, .agg #[.iface 200 (.pointer (some ⟨bn, 0, none⟩)), .int .i32 ln]] w (ArP 3 w (allS (fun i => is (Z i) sn) n)) := by
  have HU := Lib.hid h
  have HN := Lib.hid hs
  clear h hs
  have hmk := It.made n hn
  go_enter Try.func24, Try.ntmps24
  go_wp2_with fail
  clear hmk
  have hst : Hd2 w (((w.alloc (.cells #[.iface 200 (.pointer (some ⟨bn, 0, none⟩)), .int .i32 ln] 30)).alloc (.cells #[.nilIface, .int .i32 0] 30)).alloc (.cells (It.mz n) 30)) n 0 bn ln sn (fun _ => ⟨.nilIface, 0⟩) (fun i => is (Z i) sn) := by
    refine ⟨⟨?_, fun j hj => by omega, by have := resC_start (w.alloc (.cells #[.iface 200 (.pointer (some ⟨bn, 0, none⟩)), .int .i32 ln] 30)) (.cells (It.mz n) 30); simpa using this, (((Below.refl _ _).alloc (Nat.le_refl _) _).alloc (by simp) _).alloc (by simp; omega) _, by omega⟩, by simp; omega, (box_start w _ _ _ _).1, (box_start w _ _ _ _).2⟩
    have := It.mz_row n ((w.alloc (.cells #[.iface 200 (.pointer (some ⟨bn, 0, none⟩)), .int .i32 ln] 30)).alloc (.cells #[.nilIface, .int .i32 0] 30))
    simpa using this
  have HST := Lib.hid hst
  clear hst
  go_loopw [6] (fun i wr => ∃ (k : Nat) (F : Nat → It), k ≤ n ∧ i = .int .i64 k ∧ Hd2 w wr n k bn ln sn F (fun i => is (Z i) sn)) (fun i _ => n - (intOf i).toNat)
  case atStart => exact ⟨0, _, by omega, rfl, HST.out⟩
  case round =>
    clear HST
    obtain ⟨k, F, hk, rfl, hH⟩ := hrel
    have HH := Lib.hid hH
    clear hH
    rename World => wr
    by_cases hlt : k < n
    · obtain ⟨b, off, rfl, hcell⟩ := HU.out.1 (by omega)
      have hcw := hcell k hlt
      have L6 := Lib.hid (lookB HH.out hcw)
      obtain ⟨c1, c2, c3⟩ := look HH.out hcw
      have hgz : w.heap.size + 1 + 1 ≤ wr.heap.size := by have := HH.out.1.row.lt; omega
      obtain ⟨z0, z1⟩ := HU.out.2 k
      clear hcell hcw
      go_wp2_with fail
      have hk0 := HH.out
      have hbl0 := Below.refl (w.heap.size + 1 + 1) wr
      go_region_held3 (fun w' => w'.cell? ⟨b, off + k, none⟩ = some (.int .u8 (Z k)) ∧ w'.cell? ⟨w.heap.size, 0, none⟩ = some (.iface 200 (.pointer (some ⟨bn, 0, none⟩))) ∧ w'.cell? ⟨w.heap.size, 1, none⟩ = some (.int .i32 ln) ∧ Below (w.heap.size + 1 + 1) wr w')
        (first | (refine keepB L6.out ?_; first | assumption | exact Below.drew (by assumption) | exact below2 (by assumption) _ _ _ _ | exact Below.drew (below2 (by assumption) _ _ _ _)))
        (first | (go_at_call 22; (refine (item22x HN.out z0 z1 (by first | assumption | exact Hd2.drew (by assumption))).mono ?_); rintro e w' ⟨T, b2, l, rfl, hS, hb⟩; have hkk := Hd2.below (w0 := w) (n := n) (k := k) (bn := bn) (ln := ln) (sn := sn) (F := F) (s := fun i => is (Z i) sn) (by first | assumption | exact Hd2.drew (by assumption)) hb; have HS2 := Lib.hid hS; have hbl := belx (by first | exact hbl0 | exact Below.drew hbl0) hgz hb; obtain ⟨d0, d1⟩ := It.cells hkk.1.row hlt; have g0 := hkk.1.row.frozen (k * 2); have g1 := hkk.1.row.frozen (k * 2 + 1); clear hb hS))
      go_wp2_with fail
      go_roundw
      case rel => exact ⟨k + 1, _, by omega, by go_num, Hd2.put hkk HS2.out⟩
      case measure => simp [intOf]; omega
    · obtain rfl : k = n := by omega
      obtain ⟨hr, r0, r1, r2, r3⟩ := HH.out.1.res
      have hne : w.heap.size + 1 ≠ wr.heap.size := by omega
      go_wp2_with fail
      refine bodyPost_ret (v := .agg #[.iface 200 (.pointer (some ⟨wr.heap.size, 0, none⟩)), .int .i32 0]) (by simp [results, Try.results24, go_sem, r0, r1, r2, r3, hr]) rfl ⟨wr.heap.size, rfl, ?_, ?_⟩
      · refine HH.out.1.fin hn (fun q hq hr' => ?_) ?_ (allS_iff _ _)
        · rw [Below.heap_alloc _ _ _ (by simpa [World.setCell] using hq), Below.heap_setCell _ _ _ _ (by exact hr'), Below.heap_setCell _ _ _ _ (by exact hr')]
        · have hsz : ∀ A v B v', ((wr.setCell A v).setCell B v').heap.size = wr.heap.size := fun _ _ _ _ => by simp [World.setCell]
          have h := fun A v B v' o => heap_alloc_new ((wr.setCell A v).setCell B v') o
          simp only [hsz] at h
          exact (cell_of_row _ wr.heap.size 0 _ _ _ (h _ _ _ _ _)).trans rfl
      · exact ((HH.out.1.bel.setCell (by first | exact Nat.le_refl _ | exact Nat.le_succ _) _).setCell (by first | exact Nat.le_refl _ | exact Nat.le_succ _) _).alloc (by simpa [World.setCell] using HH.out.1.bel.size) _
end Go.Proofs.Ythhlioepgfjknaa.sf
