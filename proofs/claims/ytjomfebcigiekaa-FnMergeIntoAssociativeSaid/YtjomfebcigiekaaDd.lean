/-
  Deferred errors: mergeInto.
-/
import Derived.Test.YtjomfebcigiekaaDc
import Derived.Deep.AppendLies

namespace Go.Proofs.Ytjomfebcigiekaa.de
open Go.ChangeShapes Go.WideShapes Go.ChangeAt Go.RowKit Go.Deep
set_option linter.unusedVariables false
set_option linter.unusedSimpArgs false
set_option linter.unnecessarySimpa false
set_option maxRecDepth 100000
set_option maxHeartbeats 1000000
/-- Which range is kept. -/
def mp (p q : Nat → Int) (i : Nat) : Int := if 0 < p (i / 2 * 2 + 1) then p i else q i
theorem dA_eq {p q : Nat → Int} {a : Option Addr} {n c : Nat} (h0 : p 0 = q 0) (h1 : p 1 = q 1) (h2 : p 2 = q 2) (h3 : p 3 = q 3) (h4 : p 4 = q 4) (h5 : p 5 = q 5) : dA p a n c = dA q a n c := by unfold dA; rw [h0, h1, h2, h3, h4, h5]
theorem OwnS.lt {w : World} {E : TypeId} {a : Option Addr} {n c : Nat} {z : Nat → Int} {B : Nat} (h : OwnS w E a n c z B) : ∀ x, a = some x → x.block < w.heap.size := fun x hx => by
  rcases h with ⟨h, _⟩ | ⟨g, h1, _, _, h4⟩
  · rw [h] at hx; cases hx
  · rw [h1] at hx; cases hx; exact h4.lt
theorem OwnS.ge {w : World} {E : TypeId} {a : Option Addr} {n c : Nat} {z : Nat → Int} {B : Nat} (h : OwnS w E a n c z B) : ∀ x, a = some x → B ≤ x.block := fun x hx => by
  rcases h with ⟨h, _⟩ | ⟨g, h1, _, h3, _⟩
  · rw [h] at hx; cases hx
  · rw [h1] at hx; cases hx; exact h3
/-- The list of b followed by that of a. -/
def cat (zb : Nat → Int) (m : Nat) (za : Nat → Int) (i : Nat) : Int := if i < m * 2 then zb i else za (i - m * 2)
def MrgP (w : World) (F T : Nat) (p q za zb : Nat → Int) (xa : Option Addr) (n ca m B : Nat) (e : Ending) (w' : World) : Prop :=
  e = .returned (.tuple #[]) ∧ ∃ b d, w'.heap[T]? = some (.cells (dA (mp p q) b (m + n) d) 47 (0, 0)) ∧ Row w' b ((m + n) * 2) (zc (cat zb m za)) ∧ (b = none → m + n = 0 ∧ d = 0) ∧ w'.heap[F]? = some (.cells (dA p xa n ca) 47 (0, 0)) ∧ Row w' xa (n * 2) (zc za) ∧ Below B w w' ∧ ∀ x, b = some x → B ≤ x.block
theorem Row.only {w w' : World} {a : Option Addr} {k : Nat} {V : Nat → Value} {T : Nat} (h : Row w a k V) (ho : Only T w w') (hx : ∀ x, a = some x → x.block ≠ T) : Row w' a k V := by
  intro h0
  obtain ⟨b, off, e, hc⟩ := h h0
  exact ⟨b, off, e, fun i hi => (World.cell?_of_block (a := ⟨b, off + i, none⟩) (ho.2.1 b (hx _ e))).trans (hc i hi)⟩
theorem merge_none {w wk : World} {F T : Nat} {p q za zb : Nat → Int} {xa xb : Option Addr} {n ca m cb B : Nat} (n0 : ¬ 0 < n) (hT : wk.heap[T]? = some (.cells (dA (mp p q) xb m cb) 47 (0, 0))) (hO : Only T w wk) (hF : w.heap[F]? = some (.cells (dA p xa n ca) 47 (0, 0))) (hne : F ≠ T)
    (ha : OwnS w 44 xa n ca za B) (hb : OwnS w 44 xb m cb zb B) (hxa : ∀ x, xa = some x → x.block ≠ F ∧ x.block ≠ T) (hxb : ∀ x, xb = some x → x.block ≠ F ∧ x.block ≠ T) (hBT : B ≤ T) : MrgP w F T p q za zb xa n ca m B (.returned (.tuple #[])) wk := by
  obtain rfl : n = 0 := by omega
  refine ⟨rfl, xb, cb, hT, ?_, hb.nil, (hO.2.1 F hne).trans hF, ha.row.only hO fun x hx => (hxa x hx).2, hO.2.2 B hBT, hb.ge⟩
  intro h0
  obtain ⟨b, off, e, hc⟩ := (hb.row.only hO fun x hx => (hxb x hx).2) h0
  exact ⟨b, off, e, fun i hi => (hc i hi).trans (by simp only [zc, cat]; rw [if_pos (by omega)])⟩
theorem merge_copy {w wk : World} {F T : Nat} {p q za zb : Nat → Int} {xa xb : Option Addr} {n ca m cb B : Nat} (m0 : ¬ 0 < m) (hT : wk.heap[T]? = some (.cells (dA (mp p q) xb m cb) 47 (0, 0))) (hO : Only T w wk) (hF : w.heap[F]? = some (.cells (dA p xa n ca) 47 (0, 0))) (hne : F ≠ T)
    (ha : OwnS w 44 xa n ca za B) (hxa : ∀ x, xa = some x → x.block ≠ F ∧ x.block ≠ T) (hBT : B ≤ T) : MrgP w F T p q za zb xa n ca m B (.returned (.tuple #[])) (wk.setCell ⟨T, 6, none⟩ (.slice xa n ca)) := by
  obtain rfl : m = 0 := by omega
  have hO2 := hO.set 6 (.slice xa n ca)
  have hr := ha.row.only hO2 fun x hx => (hxa x hx).2
  refine ⟨rfl, xa, ca, ?_, ?_, fun e => by rw [Nat.zero_add]; exact ha.nil e, (hO2.2.1 F hne).trans hF, hr, hO2.2.2 B hBT, ha.ge⟩
  · rw [heap_setCell_same wk T 6 _ 47 _ hT, Nat.zero_add]
    rfl
  · rw [Nat.zero_add]
    intro h0
    obtain ⟨b, off, e, hc⟩ := hr h0
    exact ⟨b, off, e, fun i hi => (hc i hi).trans (by simp only [zc, cat]; rw [if_neg (by omega)]; simp)⟩
theorem own_of_row {w : World} {g n B : Nat} {z : Nat → Int} (h : RowG w g 44 (n * 2) (zc z)) (hB : B ≤ g) (hn : n ≤ maxLen) : w.ownsRow B 44 2 (.slice (some ⟨g, 0, none⟩) n n) n ((List.range (n * 2)).map (zc z)) := by
  obtain ⟨arr, h1, h2, h3⟩ := h
  refine ⟨by simp, .inr ⟨g, n, arr, rfl, hB, h1, Nat.le_refl _, hn, h2, ?_⟩⟩
  apply List.ext_getElem?
  intro i
  rw [List.getElem?_take]
  by_cases hi : i < n * 2
  · rw [if_pos hi, Array.getElem?_toList, h3 i hi]
    simp [hi]
  · rw [if_neg hi]
    simp [hi]
theorem news_row {w : World} {g n : Nat} {z : Nat → Int} (h : RowG w g 44 (n * 2) (zc z)) (j : Nat) (u : Value) (hj : ((List.range (n * 2)).map (zc z))[j]? = some u) : w.cell? ((⟨g, 0, none⟩ : Addr).add j) = some u := by
  by_cases hi : j < n * 2
  · rw [Addr.add_mid, Nat.zero_add, h.cell hi]
    simpa [hi] using hj
  · simp [hi] at hj
theorem info44p : ∃ i z, Try.prog.info? 44 = some i ∧ i.zero = some z ∧ z.cells = #[.int .i32 0, .int .i32 0] ∧ i.size = 2 ∧ i.bytes = 8 := by
  obtain ⟨i, hi, hz⟩ := Option.map_eq_some_iff.1 info44
  simp only [Prod.mk.injEq] at hz
  obtain ⟨h1, h2, h3⟩ := hz
  obtain ⟨z, hz, hzc⟩ := Option.map_eq_some_iff.1 h1
  exact ⟨i, z, hi, hz, hzc, h2, h3⟩
theorem merge_app {w wk w1 : World} {F T : Nat} {p q za zb : Nat → Int} {n ca m B ga gb g cap : Nat} (hT : wk.heap[T]? = some (.cells (dA (mp p q) (some ⟨gb, 0, none⟩) m m) 47 (0, 0))) (hO : Only T w wk) (hF : w.heap[F]? = some (.cells (dA p (some ⟨ga, 0, none⟩) n ca) 47 (0, 0))) (hne : F ≠ T)
    (hra : RowG wk ga 44 (n * 2) (zc za)) (na : (⟨ga, 0, none⟩ : Addr).block ≠ F ∧ (⟨ga, 0, none⟩ : Addr).block ≠ T) (nb : (⟨gb, 0, none⟩ : Addr).block ≠ F ∧ (⟨gb, 0, none⟩ : Addr).block ≠ T) (hab : (⟨ga, 0, none⟩ : Addr).block ≠ (⟨gb, 0, none⟩ : Addr).block) (hga : B ≤ ga) (hgb : B ≤ gb) (hBT : B ≤ T) (hlb : gb < wk.heap.size)
    (hw : w1.ownsRow B 44 2 (.slice (some ⟨g, 0, none⟩) (m + n) cap) (m + n) ((List.range (m * 2)).map (zc zb) ++ (List.range (n * 2)).map (zc za))) (hg : wk.drew.grownBy w1 (some gb)) (hat : (some gb : Option Nat) = some g ∨ g = wk.drew.heap.size) :
    MrgP w F T p q za zb (some ⟨ga, 0, none⟩) n ca m B (.returned (.tuple #[])) (w1.setCell ⟨T, 6, none⟩ (.slice (some ⟨g, 0, none⟩) (m + n) cap)) := by
  simp only at na nb hab
  have lT := lt_of_block hT
  have hgT : g ≠ T := by
    rcases hat with h | h
    · cases h; exact nb.2
    · intro e; have : g = wk.heap.size := h; omega
  have bk : ∀ k, k < wk.heap.size → k ≠ gb → w1.heap[k]? = wk.heap[k]? := fun k hk hn => hg.block k hk (by intro e; cases e; exact hn rfl)
  have hT1 := (bk T lT (Ne.symm nb.2)).trans hT
  have hFk := (hO.2.1 F hne).trans hF
  have lF := lt_of_block hFk
  have hF1 := (bk F lF (Ne.symm nb.1)).trans hFk
  have hbB : Below B w w1 := (hO.2.2 B hBT).trans ⟨hg.os, hg.tape, hg.output, hg.size, fun k hk => bk k (by have := hra.lt; omega) (by omega)⟩
  refine ⟨rfl, some ⟨g, 0, none⟩, cap, ?_, ?_, (fun e => by cases e), (Below.heap_setCell _ _ _ _ hne).trans hF1, ?_, hbB.setCell hBT _, (fun x hx => by
    cases hx
    show B ≤ g
    rcases hat with h | h
    · cases h; exact hgb
    · have : g = wk.heap.size := h
      have := hra.lt
      omega)⟩
  · rw [heap_setCell_same w1 T 6 _ 47 _ hT1]
    rfl
  · intro h0
    refine ⟨g, 0, rfl, fun i hi => ?_⟩
    rw [Nat.zero_add, World.cell?_setCell_far _ _ _ _ (Ne.symm hgT)]
    obtain ⟨hl, hv⟩ := hw
    rcases hv with ⟨hv, _⟩ | ⟨g', cap', cur, hv, _, hc, h1, h2, h3, h4⟩
    · cases hv
    · cases hv
      rw [cell_of_row w1 g i _ _ _ hc]
      have e : cur[i]? = (cur.toList.take ((m + n) * 2))[i]? := by rw [List.getElem?_take, if_pos hi, Array.getElem?_toList]
      rw [e, h4, List.getElem?_append]
      simp only [List.length_map, List.length_range, zc, cat]
      by_cases hm : i < m * 2
      · rw [if_pos hm, if_pos hm]; simp [hm, zc]
      · rw [if_neg hm, if_neg hm]
        have : i - m * 2 < n * 2 := by omega
        simp [this, zc]
  · intro h0
    refine ⟨ga, 0, rfl, fun i hi => ?_⟩
    rw [Nat.zero_add, World.cell?_setCell_far _ _ _ _ (Ne.symm na.2)]
    exact (World.cell?_of_block (a := ⟨ga, i, none⟩) (bk ga hra.lt hab)).trans (hra.cell hi)
theorem merge12 (w : World) (F T : Nat) (p q za zb : Nat → Int) (xa xb : Option Addr) (n ca m cb B : Nat) (hn : n ≤ 65536) (hm : m ≤ 65536) (hF1 : w.heap[F]? = some (.cells (dA p xa n ca) 47 (0, 0))) (hT1 : w.heap[T]? = some (.cells (dA q xb m cb) 47 (0, 0))) (hne1 : F ≠ T)
    (ha : OwnS w 44 xa n ca za B) (hb : OwnS w 44 xb m cb zb B) (hxa : ∀ x, xa = some x → x.block ≠ F ∧ x.block ≠ T) (hxb : ∀ x, xb = some x → x.block ≠ F ∧ x.block ≠ T) (hab : ∀ x y, xa = some x → xb = some y → x.block ≠ y.block) (hBT : B ≤ T) :
    Calls Try.prog 12 #[.pointer (some ⟨F, 0, none⟩), .pointer (some ⟨T, 0, none⟩)] w (MrgP w F T p q za zb xa n ca m B) := by
  have hF := Lib.hid hF1
  have hF0 := Lib.hid hF1
  have hT := Lib.hid hT1
  have hO := Lib.hid (Only.refl T w)
  have hne := Lib.hid hne1
  have HA := Lib.hid ha
  have HB := Lib.hid hb
  have HXA := Lib.hid hxa
  have HXB := Lib.hid hxb
  have HBT := Lib.hid hBT
  have HAB := Lib.hid hab
  have lF := lt_of_block hF1
  have lT := lt_of_block hT1
  have hFT := hne1
  clear hF1 hT1 hne1 ha hb hxa hxb hBT hab
  go_enter Try.func12, Try.ntmps12
  have c1 : w.cell? ⟨F, 0, none⟩ = some (.int .i32 (p 0)) := (cell_of_row _ _ 0 _ _ _ hF.out).trans rfl
  have c2 : w.cell? ⟨F, 0 + 1, none⟩ = some (.int .i32 (p 1)) := (cell_of_row _ _ 1 _ _ _ hF.out).trans rfl
  have c3 : w.cell? ⟨F, 1, none⟩ = some (.int .i32 (p 1)) := c2
  have d1 : w.cell? ⟨T, 0, none⟩ = some (.int .i32 (q 0)) := (cell_of_row _ _ 0 _ _ _ hT.out).trans rfl
  have d2 : w.cell? ⟨T, 0 + 1, none⟩ = some (.int .i32 (q 1)) := (cell_of_row _ _ 1 _ _ _ hT.out).trans rfl
  have f1 : w.frozen? ⟨T, 0, none⟩ = false := frozen_of_row _ _ 0 _ _ hT.out
  have f2 : w.frozen? ⟨T, 0 + 1, none⟩ = false := frozen_of_row _ _ 1 _ _ hT.out
  rcases e0 : decide ((0 : Int) < p 1) with _ | _
  · go_upto_region 2 with (fail)
    have E0 := Lib.hid e0
    clear e0 c1 c2 c3 d1 d2 f1 f2
    have c1 : w.cell? ⟨F, 2, none⟩ = some (.int .i32 (p 2)) := (cell_of_row _ _ 2 _ _ _ hF.out).trans rfl
    have c2 : w.cell? ⟨F, 2 + 1, none⟩ = some (.int .i32 (p 3)) := (cell_of_row _ _ 3 _ _ _ hF.out).trans rfl
    have c3 : w.cell? ⟨F, 3, none⟩ = some (.int .i32 (p 3)) := c2
    have d1 : w.cell? ⟨T, 2, none⟩ = some (.int .i32 (q 2)) := (cell_of_row _ _ 2 _ _ _ hT.out).trans rfl
    have d2 : w.cell? ⟨T, 2 + 1, none⟩ = some (.int .i32 (q 3)) := (cell_of_row _ _ 3 _ _ _ hT.out).trans rfl
    have f1 : w.frozen? ⟨T, 2, none⟩ = false := frozen_of_row _ _ 2 _ _ hT.out
    have f2 : w.frozen? ⟨T, 2 + 1, none⟩ = false := frozen_of_row _ _ 3 _ _ hT.out
    rcases e1 : decide ((0 : Int) < p 3) with _ | _
    · go_upto_region 4 with (fail)
      have E1 := Lib.hid e1
      clear e1 c1 c2 c3 d1 d2 f1 f2
      have c1 : w.cell? ⟨F, 4, none⟩ = some (.int .i32 (p 4)) := (cell_of_row _ _ 4 _ _ _ hF.out).trans rfl
      have c2 : w.cell? ⟨F, 4 + 1, none⟩ = some (.int .i32 (p 5)) := (cell_of_row _ _ 5 _ _ _ hF.out).trans rfl
      have c3 : w.cell? ⟨F, 5, none⟩ = some (.int .i32 (p 5)) := c2
      have d1 : w.cell? ⟨T, 4, none⟩ = some (.int .i32 (q 4)) := (cell_of_row _ _ 4 _ _ _ hT.out).trans rfl
      have d2 : w.cell? ⟨T, 4 + 1, none⟩ = some (.int .i32 (q 5)) := (cell_of_row _ _ 5 _ _ _ hT.out).trans rfl
      have f1 : w.frozen? ⟨T, 4, none⟩ = false := frozen_of_row _ _ 4 _ _ hT.out
      have f2 : w.frozen? ⟨T, 4 + 1, none⟩ = false := frozen_of_row _ _ 5 _ _ hT.out
      rcases e2 : decide ((0 : Int) < p 5) with _ | _
      · go_upto_region 6 with (fail)
        have E2 := Lib.hid e2
        clear e2 c1 c2 c3 d1 d2 f1 f2
        have hq : dA q xb m cb = dA (mp p q) xb m cb := dA_eq (by have := E0.out; simp [mp] at this ⊢; omega) (by have := E0.out; simp [mp] at this ⊢; omega) (by have := E1.out; simp [mp] at this ⊢; omega) (by have := E1.out; simp [mp] at this ⊢; omega) (by have := E2.out; simp [mp] at this ⊢; omega) (by have := E2.out; simp [mp] at this ⊢; omega)
        replace hT : Hid (w.heap[T]? = some (.cells (dA (mp p q) xb m cb) 47 (0, 0))) := Lib.hid (hq ▸ hT.out)
        clear hq E0 E1 E2
        have k6 : w.cell? ⟨F, 6, none⟩ = some (.slice xa n ca) := (cell_of_row _ _ 6 _ _ _ hF.out).trans rfl
        have t6 : w.cell? ⟨T, 6, none⟩ = some (.slice xb m cb) := (cell_of_row _ _ 6 _ _ _ hT.out).trans rfl
        have f6 : w.frozen? ⟨T, 6, none⟩ = false := frozen_of_row _ _ 6 _ _ hT.out
        by_cases n0 : 0 < n
        · by_cases m0 : 0 < m
          · rcases HA.out with ⟨_, h, _⟩ | ⟨ga, h1, h2, hga, hrowa⟩
            · omega
            subst h1
            obtain rfl : n = ca := h2.symm
            clear h2
            rcases HB.out with ⟨_, h, _⟩ | ⟨gb, h1, h3, hgb, hrowb⟩
            · omega
            subst h1
            obtain rfl : m = cb := h3.symm
            clear h3
            have na := (HXA.out _ rfl)
            have nb := (HXB.out _ rfl)
            have hra := hO.out.row hrowa na.2
            have hrb := hO.out.row hrowb nb.2
            obtain ⟨i0, z0, hi, hz0, hz1, hz2, hz3⟩ := info44p
            have E1 := Lib.hid hi
            have E2 := Lib.hid hz0
            have E3 := Lib.hid hz1
            have E4 := Lib.hid hz2
            have E5 := Lib.hid hz3
            have HOW : Hid (w.drew.ownsRow B 44 2 (.slice (some ⟨gb, 0, none⟩) m m) m ((List.range (m * 2)).map (zc zb))) := Lib.hid (own_of_row hrb.drew hgb (by unfold maxLen; omega))
            have HNW : Hid (∀ j u, ((List.range (n * 2)).map (zc za))[j]? = some u → w.drew.cell? ((⟨ga, 0, none⟩ : Addr).add j) = some u) := Lib.hid (news_row hra.drew)
            have HON : Hid (∀ u ∈ (List.range (n * 2)).map (zc za), u.oneCell' = true) := Lib.hid (fun u hu => by obtain ⟨j, _, rfl⟩ := List.mem_map.1 hu; rfl)
            have HSB : Hid (B ≤ w.drew.heap.size) := Lib.hid (by have := hrb.lt; show B ≤ w.heap.size; omega)
            have HTF : Hid (∀ w1 : World, w.drew.grownBy w1 (some gb) → w1.cell? ⟨T, 6, none⟩ = some (.slice (some ⟨gb, 0, none⟩) m m) ∧ w1.frozen? ⟨T, 6, none⟩ = false) := Lib.hid (fun w1 hg => by
              have h := (hg.block T (lt_of_block hT.out) (by intro e; cases e; exact nb.2 rfl)).trans hT.out
              exact ⟨(cell_of_row _ _ 6 _ _ _ h).trans rfl, frozen_of_row _ _ 6 _ _ h⟩)
            have HRA := Lib.hid hra
            have HRB := Lib.hid hrb
            have HNA := Lib.hid na
            have HNB := Lib.hid nb
            have hgb' := hgb
            clear hi hz0 hz1 hz2 hz3 hrowa hrowb hra hrb na nb
            go_upto_region 8 with (fail)
            go_region_law (refine step_append_lies _ rfl (.tmp 59) (.tmp 63) 45 rfl B 44 i0 z0 2 8 Try.underlying45 E1.out E2.out E4.out E5.out (by rw [E3.out]; rfl) (by decide) (.slice (some ⟨gb, 0, none⟩) m m) m ((List.range (m * 2)).map (zc zb)) (by simp [Act.eval, Act.put]) HOW.out ⟨ga, 0, none⟩ n n ((List.range (n * 2)).map (zc za)) (by simp [Act.eval, Act.put]) (by simp) HNW.out HON.out n0 (by unfold maxLen; omega) (by omega) HSB.out _ rfl ?_; intro g cap w1 hown hgrow hat hlt; have HW1 := Lib.hid hown; have HGR := Lib.hid hgrow; have HAT := Lib.hid hat; have tt := (HTF.out w1 HGR.out).1; have tf := (HTF.out w1 HGR.out).2; clear hown hgrow hat)
            all_goals
              go_wp2_with fail
              go_end0
              exact merge_app hT.out hO.out hF0.out hne.out HRA.out HNA.out HNB.out (HAB.out _ _ rfl rfl) hga hgb HBT.out HRB.out.lt HW1.out HGR.out HAT.out
          · go_wp2_with fail
            go_end0
            exact merge_copy m0 hT.out hO.out hF0.out hne.out HA.out HXA.out HBT.out
        · go_wp2_with fail
          go_end0
          exact merge_none n0 hT.out hO.out hF0.out hne.out HA.out HB.out HXA.out HXB.out HBT.out
      · go_upto_region 6 with (fail)
        have E2 := Lib.hid e2
        clear e2 c1 c2 c3 d1 d2 f1 f2
        replace hT : Hid (((w.setCell ⟨T, 4, none⟩ (.int .i32 (p 4))).setCell ⟨T, 4 + 1, none⟩ (.int .i32 (p 5))).heap[T]? = some (.cells (dA (fun i => if i / 2 = 2 then p i else q i) xb m cb) 47 (0, 0))) := Lib.hid (heap_setCell_same _ T (4 + 1) _ 47 _ (heap_setCell_same w T 4 _ 47 _ hT.out))
        replace hO := Lib.hid ((hO.out.set 4 (.int .i32 (p 4))).set (4 + 1) (.int .i32 (p 5)))
        replace hF := Lib.hid ((hO.out.2.1 F hne.out).trans hF0.out)
        generalize (w.setCell _ _).setCell _ _ = v2 at *
        have hq : dA (fun i => if i / 2 = 2 then p i else q i) xb m cb = dA (mp p q) xb m cb := dA_eq (by have := E0.out; simp [mp] at this ⊢; omega) (by have := E0.out; simp [mp] at this ⊢; omega) (by have := E1.out; simp [mp] at this ⊢; omega) (by have := E1.out; simp [mp] at this ⊢; omega) (by have := E2.out; simp [mp] at this ⊢; omega) (by have := E2.out; simp [mp] at this ⊢; omega)
        replace hT : Hid (v2.heap[T]? = some (.cells (dA (mp p q) xb m cb) 47 (0, 0))) := Lib.hid (hq ▸ hT.out)
        clear hq E0 E1 E2
        have k6 : v2.cell? ⟨F, 6, none⟩ = some (.slice xa n ca) := (cell_of_row _ _ 6 _ _ _ hF.out).trans rfl
        have t6 : v2.cell? ⟨T, 6, none⟩ = some (.slice xb m cb) := (cell_of_row _ _ 6 _ _ _ hT.out).trans rfl
        have f6 : v2.frozen? ⟨T, 6, none⟩ = false := frozen_of_row _ _ 6 _ _ hT.out
        by_cases n0 : 0 < n
        · by_cases m0 : 0 < m
          · rcases HA.out with ⟨_, h, _⟩ | ⟨ga, h1, h2, hga, hrowa⟩
            · omega
            subst h1
            obtain rfl : n = ca := h2.symm
            clear h2
            rcases HB.out with ⟨_, h, _⟩ | ⟨gb, h1, h3, hgb, hrowb⟩
            · omega
            subst h1
            obtain rfl : m = cb := h3.symm
            clear h3
            have na := (HXA.out _ rfl)
            have nb := (HXB.out _ rfl)
            have hra := hO.out.row hrowa na.2
            have hrb := hO.out.row hrowb nb.2
            obtain ⟨i0, z0, hi, hz0, hz1, hz2, hz3⟩ := info44p
            have E1 := Lib.hid hi
            have E2 := Lib.hid hz0
            have E3 := Lib.hid hz1
            have E4 := Lib.hid hz2
            have E5 := Lib.hid hz3
            have HOW : Hid (v2.drew.ownsRow B 44 2 (.slice (some ⟨gb, 0, none⟩) m m) m ((List.range (m * 2)).map (zc zb))) := Lib.hid (own_of_row hrb.drew hgb (by unfold maxLen; omega))
            have HNW : Hid (∀ j u, ((List.range (n * 2)).map (zc za))[j]? = some u → v2.drew.cell? ((⟨ga, 0, none⟩ : Addr).add j) = some u) := Lib.hid (news_row hra.drew)
            have HON : Hid (∀ u ∈ (List.range (n * 2)).map (zc za), u.oneCell' = true) := Lib.hid (fun u hu => by obtain ⟨j, _, rfl⟩ := List.mem_map.1 hu; rfl)
            have HSB : Hid (B ≤ v2.drew.heap.size) := Lib.hid (by have := hrb.lt; show B ≤ v2.heap.size; omega)
            have HTF : Hid (∀ w1 : World, v2.drew.grownBy w1 (some gb) → w1.cell? ⟨T, 6, none⟩ = some (.slice (some ⟨gb, 0, none⟩) m m) ∧ w1.frozen? ⟨T, 6, none⟩ = false) := Lib.hid (fun w1 hg => by
              have h := (hg.block T (lt_of_block hT.out) (by intro e; cases e; exact nb.2 rfl)).trans hT.out
              exact ⟨(cell_of_row _ _ 6 _ _ _ h).trans rfl, frozen_of_row _ _ 6 _ _ h⟩)
            have HRA := Lib.hid hra
            have HRB := Lib.hid hrb
            have HNA := Lib.hid na
            have HNB := Lib.hid nb
            have hgb' := hgb
            clear hi hz0 hz1 hz2 hz3 hrowa hrowb hra hrb na nb
            go_upto_region 8 with (fail)
            go_region_law (refine step_append_lies _ rfl (.tmp 59) (.tmp 63) 45 rfl B 44 i0 z0 2 8 Try.underlying45 E1.out E2.out E4.out E5.out (by rw [E3.out]; rfl) (by decide) (.slice (some ⟨gb, 0, none⟩) m m) m ((List.range (m * 2)).map (zc zb)) (by simp [Act.eval, Act.put]) HOW.out ⟨ga, 0, none⟩ n n ((List.range (n * 2)).map (zc za)) (by simp [Act.eval, Act.put]) (by simp) HNW.out HON.out n0 (by unfold maxLen; omega) (by omega) HSB.out _ rfl ?_; intro g cap w1 hown hgrow hat hlt; have HW1 := Lib.hid hown; have HGR := Lib.hid hgrow; have HAT := Lib.hid hat; have tt := (HTF.out w1 HGR.out).1; have tf := (HTF.out w1 HGR.out).2; clear hown hgrow hat)
            all_goals
              go_wp2_with fail
              go_end0
              exact merge_app hT.out hO.out hF0.out hne.out HRA.out HNA.out HNB.out (HAB.out _ _ rfl rfl) hga hgb HBT.out HRB.out.lt HW1.out HGR.out HAT.out
          · go_wp2_with fail
            go_end0
            exact merge_copy m0 hT.out hO.out hF0.out hne.out HA.out HXA.out HBT.out
        · go_wp2_with fail
          go_end0
          exact merge_none n0 hT.out hO.out hF0.out hne.out HA.out HB.out HXA.out HXB.out HBT.out
    · go_upto_region 4 with (fail)
      have E1 := Lib.hid e1
      clear e1 c1 c2 c3 d1 d2 f1 f2
      replace hT : Hid (((w.setCell ⟨T, 2, none⟩ (.int .i32 (p 2))).setCell ⟨T, 2 + 1, none⟩ (.int .i32 (p 3))).heap[T]? = some (.cells (dA (fun i => if i / 2 = 1 then p i else q i) xb m cb) 47 (0, 0))) := Lib.hid (heap_setCell_same _ T (2 + 1) _ 47 _ (heap_setCell_same w T 2 _ 47 _ hT.out))
      replace hO := Lib.hid ((hO.out.set 2 (.int .i32 (p 2))).set (2 + 1) (.int .i32 (p 3)))
      replace hF := Lib.hid ((hO.out.2.1 F hne.out).trans hF0.out)
      generalize (w.setCell _ _).setCell _ _ = v1 at *
      have c1 : v1.cell? ⟨F, 4, none⟩ = some (.int .i32 (p 4)) := (cell_of_row _ _ 4 _ _ _ hF.out).trans rfl
      have c2 : v1.cell? ⟨F, 4 + 1, none⟩ = some (.int .i32 (p 5)) := (cell_of_row _ _ 5 _ _ _ hF.out).trans rfl
      have c3 : v1.cell? ⟨F, 5, none⟩ = some (.int .i32 (p 5)) := c2
      have d1 : v1.cell? ⟨T, 4, none⟩ = some (.int .i32 ((fun i => if i / 2 = 1 then p i else q i) 4)) := (cell_of_row _ _ 4 _ _ _ hT.out).trans rfl
      have d2 : v1.cell? ⟨T, 4 + 1, none⟩ = some (.int .i32 ((fun i => if i / 2 = 1 then p i else q i) 5)) := (cell_of_row _ _ 5 _ _ _ hT.out).trans rfl
      have f1 : v1.frozen? ⟨T, 4, none⟩ = false := frozen_of_row _ _ 4 _ _ hT.out
      have f2 : v1.frozen? ⟨T, 4 + 1, none⟩ = false := frozen_of_row _ _ 5 _ _ hT.out
      rcases e2 : decide ((0 : Int) < p 5) with _ | _
      · go_upto_region 6 with (fail)
        have E2 := Lib.hid e2
        clear e2 c1 c2 c3 d1 d2 f1 f2
        have hq : dA (fun i => if i / 2 = 1 then p i else q i) xb m cb = dA (mp p q) xb m cb := dA_eq (by have := E0.out; simp [mp] at this ⊢; omega) (by have := E0.out; simp [mp] at this ⊢; omega) (by have := E1.out; simp [mp] at this ⊢; omega) (by have := E1.out; simp [mp] at this ⊢; omega) (by have := E2.out; simp [mp] at this ⊢; omega) (by have := E2.out; simp [mp] at this ⊢; omega)
        replace hT : Hid (v1.heap[T]? = some (.cells (dA (mp p q) xb m cb) 47 (0, 0))) := Lib.hid (hq ▸ hT.out)
        clear hq E0 E1 E2
        have k6 : v1.cell? ⟨F, 6, none⟩ = some (.slice xa n ca) := (cell_of_row _ _ 6 _ _ _ hF.out).trans rfl
        have t6 : v1.cell? ⟨T, 6, none⟩ = some (.slice xb m cb) := (cell_of_row _ _ 6 _ _ _ hT.out).trans rfl
        have f6 : v1.frozen? ⟨T, 6, none⟩ = false := frozen_of_row _ _ 6 _ _ hT.out
        by_cases n0 : 0 < n
        · by_cases m0 : 0 < m
          · rcases HA.out with ⟨_, h, _⟩ | ⟨ga, h1, h2, hga, hrowa⟩
            · omega
            subst h1
            obtain rfl : n = ca := h2.symm
            clear h2
            rcases HB.out with ⟨_, h, _⟩ | ⟨gb, h1, h3, hgb, hrowb⟩
            · omega
            subst h1
            obtain rfl : m = cb := h3.symm
            clear h3
            have na := (HXA.out _ rfl)
            have nb := (HXB.out _ rfl)
            have hra := hO.out.row hrowa na.2
            have hrb := hO.out.row hrowb nb.2
            obtain ⟨i0, z0, hi, hz0, hz1, hz2, hz3⟩ := info44p
            have E1 := Lib.hid hi
            have E2 := Lib.hid hz0
            have E3 := Lib.hid hz1
            have E4 := Lib.hid hz2
            have E5 := Lib.hid hz3
            have HOW : Hid (v1.drew.ownsRow B 44 2 (.slice (some ⟨gb, 0, none⟩) m m) m ((List.range (m * 2)).map (zc zb))) := Lib.hid (own_of_row hrb.drew hgb (by unfold maxLen; omega))
            have HNW : Hid (∀ j u, ((List.range (n * 2)).map (zc za))[j]? = some u → v1.drew.cell? ((⟨ga, 0, none⟩ : Addr).add j) = some u) := Lib.hid (news_row hra.drew)
            have HON : Hid (∀ u ∈ (List.range (n * 2)).map (zc za), u.oneCell' = true) := Lib.hid (fun u hu => by obtain ⟨j, _, rfl⟩ := List.mem_map.1 hu; rfl)
            have HSB : Hid (B ≤ v1.drew.heap.size) := Lib.hid (by have := hrb.lt; show B ≤ v1.heap.size; omega)
            have HTF : Hid (∀ w1 : World, v1.drew.grownBy w1 (some gb) → w1.cell? ⟨T, 6, none⟩ = some (.slice (some ⟨gb, 0, none⟩) m m) ∧ w1.frozen? ⟨T, 6, none⟩ = false) := Lib.hid (fun w1 hg => by
              have h := (hg.block T (lt_of_block hT.out) (by intro e; cases e; exact nb.2 rfl)).trans hT.out
              exact ⟨(cell_of_row _ _ 6 _ _ _ h).trans rfl, frozen_of_row _ _ 6 _ _ h⟩)
            have HRA := Lib.hid hra
            have HRB := Lib.hid hrb
            have HNA := Lib.hid na
            have HNB := Lib.hid nb
            have hgb' := hgb
            clear hi hz0 hz1 hz2 hz3 hrowa hrowb hra hrb na nb
            go_upto_region 8 with (fail)
            go_region_law (refine step_append_lies _ rfl (.tmp 59) (.tmp 63) 45 rfl B 44 i0 z0 2 8 Try.underlying45 E1.out E2.out E4.out E5.out (by rw [E3.out]; rfl) (by decide) (.slice (some ⟨gb, 0, none⟩) m m) m ((List.range (m * 2)).map (zc zb)) (by simp [Act.eval, Act.put]) HOW.out ⟨ga, 0, none⟩ n n ((List.range (n * 2)).map (zc za)) (by simp [Act.eval, Act.put]) (by simp) HNW.out HON.out n0 (by unfold maxLen; omega) (by omega) HSB.out _ rfl ?_; intro g cap w1 hown hgrow hat hlt; have HW1 := Lib.hid hown; have HGR := Lib.hid hgrow; have HAT := Lib.hid hat; have tt := (HTF.out w1 HGR.out).1; have tf := (HTF.out w1 HGR.out).2; clear hown hgrow hat)
            all_goals
              go_wp2_with fail
              go_end0
              exact merge_app hT.out hO.out hF0.out hne.out HRA.out HNA.out HNB.out (HAB.out _ _ rfl rfl) hga hgb HBT.out HRB.out.lt HW1.out HGR.out HAT.out
          · go_wp2_with fail
            go_end0
            exact merge_copy m0 hT.out hO.out hF0.out hne.out HA.out HXA.out HBT.out
        · go_wp2_with fail
          go_end0
          exact merge_none n0 hT.out hO.out hF0.out hne.out HA.out HB.out HXA.out HXB.out HBT.out
      · go_upto_region 6 with (fail)
        have E2 := Lib.hid e2
        clear e2 c1 c2 c3 d1 d2 f1 f2
        replace hT : Hid (((v1.setCell ⟨T, 4, none⟩ (.int .i32 (p 4))).setCell ⟨T, 4 + 1, none⟩ (.int .i32 (p 5))).heap[T]? = some (.cells (dA (fun i => if i / 2 = 2 then p i else (fun i => if i / 2 = 1 then p i else q i) i) xb m cb) 47 (0, 0))) := Lib.hid (heap_setCell_same _ T (4 + 1) _ 47 _ (heap_setCell_same v1 T 4 _ 47 _ hT.out))
        replace hO := Lib.hid ((hO.out.set 4 (.int .i32 (p 4))).set (4 + 1) (.int .i32 (p 5)))
        replace hF := Lib.hid ((hO.out.2.1 F hne.out).trans hF0.out)
        generalize (v1.setCell _ _).setCell _ _ = v2 at *
        have hq : dA (fun i => if i / 2 = 2 then p i else (fun i => if i / 2 = 1 then p i else q i) i) xb m cb = dA (mp p q) xb m cb := dA_eq (by have := E0.out; simp [mp] at this ⊢; omega) (by have := E0.out; simp [mp] at this ⊢; omega) (by have := E1.out; simp [mp] at this ⊢; omega) (by have := E1.out; simp [mp] at this ⊢; omega) (by have := E2.out; simp [mp] at this ⊢; omega) (by have := E2.out; simp [mp] at this ⊢; omega)
        replace hT : Hid (v2.heap[T]? = some (.cells (dA (mp p q) xb m cb) 47 (0, 0))) := Lib.hid (hq ▸ hT.out)
        clear hq E0 E1 E2
        have k6 : v2.cell? ⟨F, 6, none⟩ = some (.slice xa n ca) := (cell_of_row _ _ 6 _ _ _ hF.out).trans rfl
        have t6 : v2.cell? ⟨T, 6, none⟩ = some (.slice xb m cb) := (cell_of_row _ _ 6 _ _ _ hT.out).trans rfl
        have f6 : v2.frozen? ⟨T, 6, none⟩ = false := frozen_of_row _ _ 6 _ _ hT.out
        by_cases n0 : 0 < n
        · by_cases m0 : 0 < m
          · rcases HA.out with ⟨_, h, _⟩ | ⟨ga, h1, h2, hga, hrowa⟩
            · omega
            subst h1
            obtain rfl : n = ca := h2.symm
            clear h2
            rcases HB.out with ⟨_, h, _⟩ | ⟨gb, h1, h3, hgb, hrowb⟩
            · omega
            subst h1
            obtain rfl : m = cb := h3.symm
            clear h3
            have na := (HXA.out _ rfl)
            have nb := (HXB.out _ rfl)
            have hra := hO.out.row hrowa na.2
            have hrb := hO.out.row hrowb nb.2
            obtain ⟨i0, z0, hi, hz0, hz1, hz2, hz3⟩ := info44p
            have E1 := Lib.hid hi
            have E2 := Lib.hid hz0
            have E3 := Lib.hid hz1
            have E4 := Lib.hid hz2
            have E5 := Lib.hid hz3
            have HOW : Hid (v2.drew.ownsRow B 44 2 (.slice (some ⟨gb, 0, none⟩) m m) m ((List.range (m * 2)).map (zc zb))) := Lib.hid (own_of_row hrb.drew hgb (by unfold maxLen; omega))
            have HNW : Hid (∀ j u, ((List.range (n * 2)).map (zc za))[j]? = some u → v2.drew.cell? ((⟨ga, 0, none⟩ : Addr).add j) = some u) := Lib.hid (news_row hra.drew)
            have HON : Hid (∀ u ∈ (List.range (n * 2)).map (zc za), u.oneCell' = true) := Lib.hid (fun u hu => by obtain ⟨j, _, rfl⟩ := List.mem_map.1 hu; rfl)
            have HSB : Hid (B ≤ v2.drew.heap.size) := Lib.hid (by have := hrb.lt; show B ≤ v2.heap.size; omega)
            have HTF : Hid (∀ w1 : World, v2.drew.grownBy w1 (some gb) → w1.cell? ⟨T, 6, none⟩ = some (.slice (some ⟨gb, 0, none⟩) m m) ∧ w1.frozen? ⟨T, 6, none⟩ = false) := Lib.hid (fun w1 hg => by
              have h := (hg.block T (lt_of_block hT.out) (by intro e; cases e; exact nb.2 rfl)).trans hT.out
              exact ⟨(cell_of_row _ _ 6 _ _ _ h).trans rfl, frozen_of_row _ _ 6 _ _ h⟩)
            have HRA := Lib.hid hra
            have HRB := Lib.hid hrb
            have HNA := Lib.hid na
            have HNB := Lib.hid nb
            have hgb' := hgb
            clear hi hz0 hz1 hz2 hz3 hrowa hrowb hra hrb na nb
            go_upto_region 8 with (fail)
            go_region_law (refine step_append_lies _ rfl (.tmp 59) (.tmp 63) 45 rfl B 44 i0 z0 2 8 Try.underlying45 E1.out E2.out E4.out E5.out (by rw [E3.out]; rfl) (by decide) (.slice (some ⟨gb, 0, none⟩) m m) m ((List.range (m * 2)).map (zc zb)) (by simp [Act.eval, Act.put]) HOW.out ⟨ga, 0, none⟩ n n ((List.range (n * 2)).map (zc za)) (by simp [Act.eval, Act.put]) (by simp) HNW.out HON.out n0 (by unfold maxLen; omega) (by omega) HSB.out _ rfl ?_; intro g cap w1 hown hgrow hat hlt; have HW1 := Lib.hid hown; have HGR := Lib.hid hgrow; have HAT := Lib.hid hat; have tt := (HTF.out w1 HGR.out).1; have tf := (HTF.out w1 HGR.out).2; clear hown hgrow hat)
            all_goals
              go_wp2_with fail
              go_end0
              exact merge_app hT.out hO.out hF0.out hne.out HRA.out HNA.out HNB.out (HAB.out _ _ rfl rfl) hga hgb HBT.out HRB.out.lt HW1.out HGR.out HAT.out
          · go_wp2_with fail
            go_end0
            exact merge_copy m0 hT.out hO.out hF0.out hne.out HA.out HXA.out HBT.out
        · go_wp2_with fail
          go_end0
          exact merge_none n0 hT.out hO.out hF0.out hne.out HA.out HB.out HXA.out HXB.out HBT.out
  · go_upto_region 2 with (fail)
    have E0 := Lib.hid e0
    clear e0 c1 c2 c3 d1 d2 f1 f2
    replace hT : Hid (((w.setCell ⟨T, 0, none⟩ (.int .i32 (p 0))).setCell ⟨T, 0 + 1, none⟩ (.int .i32 (p 1))).heap[T]? = some (.cells (dA (fun i => if i / 2 = 0 then p i else q i) xb m cb) 47 (0, 0))) := Lib.hid (heap_setCell_same _ T (0 + 1) _ 47 _ (heap_setCell_same w T 0 _ 47 _ hT.out))
    replace hO := Lib.hid ((hO.out.set 0 (.int .i32 (p 0))).set (0 + 1) (.int .i32 (p 1)))
    replace hF := Lib.hid ((hO.out.2.1 F hne.out).trans hF0.out)
    generalize (w.setCell _ _).setCell _ _ = v0 at *
    have c1 : v0.cell? ⟨F, 2, none⟩ = some (.int .i32 (p 2)) := (cell_of_row _ _ 2 _ _ _ hF.out).trans rfl
    have c2 : v0.cell? ⟨F, 2 + 1, none⟩ = some (.int .i32 (p 3)) := (cell_of_row _ _ 3 _ _ _ hF.out).trans rfl
    have c3 : v0.cell? ⟨F, 3, none⟩ = some (.int .i32 (p 3)) := c2
    have d1 : v0.cell? ⟨T, 2, none⟩ = some (.int .i32 ((fun i => if i / 2 = 0 then p i else q i) 2)) := (cell_of_row _ _ 2 _ _ _ hT.out).trans rfl
    have d2 : v0.cell? ⟨T, 2 + 1, none⟩ = some (.int .i32 ((fun i => if i / 2 = 0 then p i else q i) 3)) := (cell_of_row _ _ 3 _ _ _ hT.out).trans rfl
    have f1 : v0.frozen? ⟨T, 2, none⟩ = false := frozen_of_row _ _ 2 _ _ hT.out
    have f2 : v0.frozen? ⟨T, 2 + 1, none⟩ = false := frozen_of_row _ _ 3 _ _ hT.out
    rcases e1 : decide ((0 : Int) < p 3) with _ | _
    · go_upto_region 4 with (fail)
      have E1 := Lib.hid e1
      clear e1 c1 c2 c3 d1 d2 f1 f2
      have c1 : v0.cell? ⟨F, 4, none⟩ = some (.int .i32 (p 4)) := (cell_of_row _ _ 4 _ _ _ hF.out).trans rfl
      have c2 : v0.cell? ⟨F, 4 + 1, none⟩ = some (.int .i32 (p 5)) := (cell_of_row _ _ 5 _ _ _ hF.out).trans rfl
      have c3 : v0.cell? ⟨F, 5, none⟩ = some (.int .i32 (p 5)) := c2
      have d1 : v0.cell? ⟨T, 4, none⟩ = some (.int .i32 ((fun i => if i / 2 = 0 then p i else q i) 4)) := (cell_of_row _ _ 4 _ _ _ hT.out).trans rfl
      have d2 : v0.cell? ⟨T, 4 + 1, none⟩ = some (.int .i32 ((fun i => if i / 2 = 0 then p i else q i) 5)) := (cell_of_row _ _ 5 _ _ _ hT.out).trans rfl
      have f1 : v0.frozen? ⟨T, 4, none⟩ = false := frozen_of_row _ _ 4 _ _ hT.out
      have f2 : v0.frozen? ⟨T, 4 + 1, none⟩ = false := frozen_of_row _ _ 5 _ _ hT.out
      rcases e2 : decide ((0 : Int) < p 5) with _ | _
      · go_upto_region 6 with (fail)
        have E2 := Lib.hid e2
        clear e2 c1 c2 c3 d1 d2 f1 f2
        have hq : dA (fun i => if i / 2 = 0 then p i else q i) xb m cb = dA (mp p q) xb m cb := dA_eq (by have := E0.out; simp [mp] at this ⊢; omega) (by have := E0.out; simp [mp] at this ⊢; omega) (by have := E1.out; simp [mp] at this ⊢; omega) (by have := E1.out; simp [mp] at this ⊢; omega) (by have := E2.out; simp [mp] at this ⊢; omega) (by have := E2.out; simp [mp] at this ⊢; omega)
        replace hT : Hid (v0.heap[T]? = some (.cells (dA (mp p q) xb m cb) 47 (0, 0))) := Lib.hid (hq ▸ hT.out)
        clear hq E0 E1 E2
        have k6 : v0.cell? ⟨F, 6, none⟩ = some (.slice xa n ca) := (cell_of_row _ _ 6 _ _ _ hF.out).trans rfl
        have t6 : v0.cell? ⟨T, 6, none⟩ = some (.slice xb m cb) := (cell_of_row _ _ 6 _ _ _ hT.out).trans rfl
        have f6 : v0.frozen? ⟨T, 6, none⟩ = false := frozen_of_row _ _ 6 _ _ hT.out
        by_cases n0 : 0 < n
        · by_cases m0 : 0 < m
          · rcases HA.out with ⟨_, h, _⟩ | ⟨ga, h1, h2, hga, hrowa⟩
            · omega
            subst h1
            obtain rfl : n = ca := h2.symm
            clear h2
            rcases HB.out with ⟨_, h, _⟩ | ⟨gb, h1, h3, hgb, hrowb⟩
            · omega
            subst h1
            obtain rfl : m = cb := h3.symm
            clear h3
            have na := (HXA.out _ rfl)
            have nb := (HXB.out _ rfl)
            have hra := hO.out.row hrowa na.2
            have hrb := hO.out.row hrowb nb.2
            obtain ⟨i0, z0, hi, hz0, hz1, hz2, hz3⟩ := info44p
            have E1 := Lib.hid hi
            have E2 := Lib.hid hz0
            have E3 := Lib.hid hz1
            have E4 := Lib.hid hz2
            have E5 := Lib.hid hz3
            have HOW : Hid (v0.drew.ownsRow B 44 2 (.slice (some ⟨gb, 0, none⟩) m m) m ((List.range (m * 2)).map (zc zb))) := Lib.hid (own_of_row hrb.drew hgb (by unfold maxLen; omega))
            have HNW : Hid (∀ j u, ((List.range (n * 2)).map (zc za))[j]? = some u → v0.drew.cell? ((⟨ga, 0, none⟩ : Addr).add j) = some u) := Lib.hid (news_row hra.drew)
            have HON : Hid (∀ u ∈ (List.range (n * 2)).map (zc za), u.oneCell' = true) := Lib.hid (fun u hu => by obtain ⟨j, _, rfl⟩ := List.mem_map.1 hu; rfl)
            have HSB : Hid (B ≤ v0.drew.heap.size) := Lib.hid (by have := hrb.lt; show B ≤ v0.heap.size; omega)
            have HTF : Hid (∀ w1 : World, v0.drew.grownBy w1 (some gb) → w1.cell? ⟨T, 6, none⟩ = some (.slice (some ⟨gb, 0, none⟩) m m) ∧ w1.frozen? ⟨T, 6, none⟩ = false) := Lib.hid (fun w1 hg => by
              have h := (hg.block T (lt_of_block hT.out) (by intro e; cases e; exact nb.2 rfl)).trans hT.out
              exact ⟨(cell_of_row _ _ 6 _ _ _ h).trans rfl, frozen_of_row _ _ 6 _ _ h⟩)
            have HRA := Lib.hid hra
            have HRB := Lib.hid hrb
            have HNA := Lib.hid na
            have HNB := Lib.hid nb
            have hgb' := hgb
            clear hi hz0 hz1 hz2 hz3 hrowa hrowb hra hrb na nb
            go_upto_region 8 with (fail)
            go_region_law (refine step_append_lies _ rfl (.tmp 59) (.tmp 63) 45 rfl B 44 i0 z0 2 8 Try.underlying45 E1.out E2.out E4.out E5.out (by rw [E3.out]; rfl) (by decide) (.slice (some ⟨gb, 0, none⟩) m m) m ((List.range (m * 2)).map (zc zb)) (by simp [Act.eval, Act.put]) HOW.out ⟨ga, 0, none⟩ n n ((List.range (n * 2)).map (zc za)) (by simp [Act.eval, Act.put]) (by simp) HNW.out HON.out n0 (by unfold maxLen; omega) (by omega) HSB.out _ rfl ?_; intro g cap w1 hown hgrow hat hlt; have HW1 := Lib.hid hown; have HGR := Lib.hid hgrow; have HAT := Lib.hid hat; have tt := (HTF.out w1 HGR.out).1; have tf := (HTF.out w1 HGR.out).2; clear hown hgrow hat)
            all_goals
              go_wp2_with fail
              go_end0
              exact merge_app hT.out hO.out hF0.out hne.out HRA.out HNA.out HNB.out (HAB.out _ _ rfl rfl) hga hgb HBT.out HRB.out.lt HW1.out HGR.out HAT.out
          · go_wp2_with fail
            go_end0
            exact merge_copy m0 hT.out hO.out hF0.out hne.out HA.out HXA.out HBT.out
        · go_wp2_with fail
          go_end0
          exact merge_none n0 hT.out hO.out hF0.out hne.out HA.out HB.out HXA.out HXB.out HBT.out
      · go_upto_region 6 with (fail)
        have E2 := Lib.hid e2
        clear e2 c1 c2 c3 d1 d2 f1 f2
        replace hT : Hid (((v0.setCell ⟨T, 4, none⟩ (.int .i32 (p 4))).setCell ⟨T, 4 + 1, none⟩ (.int .i32 (p 5))).heap[T]? = some (.cells (dA (fun i => if i / 2 = 2 then p i else (fun i => if i / 2 = 0 then p i else q i) i) xb m cb) 47 (0, 0))) := Lib.hid (heap_setCell_same _ T (4 + 1) _ 47 _ (heap_setCell_same v0 T 4 _ 47 _ hT.out))
        replace hO := Lib.hid ((hO.out.set 4 (.int .i32 (p 4))).set (4 + 1) (.int .i32 (p 5)))
        replace hF := Lib.hid ((hO.out.2.1 F hne.out).trans hF0.out)
        generalize (v0.setCell _ _).setCell _ _ = v2 at *
        have hq : dA (fun i => if i / 2 = 2 then p i else (fun i => if i / 2 = 0 then p i else q i) i) xb m cb = dA (mp p q) xb m cb := dA_eq (by have := E0.out; simp [mp] at this ⊢; omega) (by have := E0.out; simp [mp] at this ⊢; omega) (by have := E1.out; simp [mp] at this ⊢; omega) (by have := E1.out; simp [mp] at this ⊢; omega) (by have := E2.out; simp [mp] at this ⊢; omega) (by have := E2.out; simp [mp] at this ⊢; omega)
        replace hT : Hid (v2.heap[T]? = some (.cells (dA (mp p q) xb m cb) 47 (0, 0))) := Lib.hid (hq ▸ hT.out)
        clear hq E0 E1 E2
        have k6 : v2.cell? ⟨F, 6, none⟩ = some (.slice xa n ca) := (cell_of_row _ _ 6 _ _ _ hF.out).trans rfl
        have t6 : v2.cell? ⟨T, 6, none⟩ = some (.slice xb m cb) := (cell_of_row _ _ 6 _ _ _ hT.out).trans rfl
        have f6 : v2.frozen? ⟨T, 6, none⟩ = false := frozen_of_row _ _ 6 _ _ hT.out
        by_cases n0 : 0 < n
        · by_cases m0 : 0 < m
          · rcases HA.out with ⟨_, h, _⟩ | ⟨ga, h1, h2, hga, hrowa⟩
            · omega
            subst h1
            obtain rfl : n = ca := h2.symm
            clear h2
            rcases HB.out with ⟨_, h, _⟩ | ⟨gb, h1, h3, hgb, hrowb⟩
            · omega
            subst h1
            obtain rfl : m = cb := h3.symm
            clear h3
            have na := (HXA.out _ rfl)
            have nb := (HXB.out _ rfl)
            have hra := hO.out.row hrowa na.2
            have hrb := hO.out.row hrowb nb.2
            obtain ⟨i0, z0, hi, hz0, hz1, hz2, hz3⟩ := info44p
            have E1 := Lib.hid hi
            have E2 := Lib.hid hz0
            have E3 := Lib.hid hz1
            have E4 := Lib.hid hz2
            have E5 := Lib.hid hz3
            have HOW : Hid (v2.drew.ownsRow B 44 2 (.slice (some ⟨gb, 0, none⟩) m m) m ((List.range (m * 2)).map (zc zb))) := Lib.hid (own_of_row hrb.drew hgb (by unfold maxLen; omega))
            have HNW : Hid (∀ j u, ((List.range (n * 2)).map (zc za))[j]? = some u → v2.drew.cell? ((⟨ga, 0, none⟩ : Addr).add j) = some u) := Lib.hid (news_row hra.drew)
            have HON : Hid (∀ u ∈ (List.range (n * 2)).map (zc za), u.oneCell' = true) := Lib.hid (fun u hu => by obtain ⟨j, _, rfl⟩ := List.mem_map.1 hu; rfl)
            have HSB : Hid (B ≤ v2.drew.heap.size) := Lib.hid (by have := hrb.lt; show B ≤ v2.heap.size; omega)
            have HTF : Hid (∀ w1 : World, v2.drew.grownBy w1 (some gb) → w1.cell? ⟨T, 6, none⟩ = some (.slice (some ⟨gb, 0, none⟩) m m) ∧ w1.frozen? ⟨T, 6, none⟩ = false) := Lib.hid (fun w1 hg => by
              have h := (hg.block T (lt_of_block hT.out) (by intro e; cases e; exact nb.2 rfl)).trans hT.out
              exact ⟨(cell_of_row _ _ 6 _ _ _ h).trans rfl, frozen_of_row _ _ 6 _ _ h⟩)
            have HRA := Lib.hid hra
            have HRB := Lib.hid hrb
            have HNA := Lib.hid na
            have HNB := Lib.hid nb
            have hgb' := hgb
            clear hi hz0 hz1 hz2 hz3 hrowa hrowb hra hrb na nb
            go_upto_region 8 with (fail)
            go_region_law (refine step_append_lies _ rfl (.tmp 59) (.tmp 63) 45 rfl B 44 i0 z0 2 8 Try.underlying45 E1.out E2.out E4.out E5.out (by rw [E3.out]; rfl) (by decide) (.slice (some ⟨gb, 0, none⟩) m m) m ((List.range (m * 2)).map (zc zb)) (by simp [Act.eval, Act.put]) HOW.out ⟨ga, 0, none⟩ n n ((List.range (n * 2)).map (zc za)) (by simp [Act.eval, Act.put]) (by simp) HNW.out HON.out n0 (by unfold maxLen; omega) (by omega) HSB.out _ rfl ?_; intro g cap w1 hown hgrow hat hlt; have HW1 := Lib.hid hown; have HGR := Lib.hid hgrow; have HAT := Lib.hid hat; have tt := (HTF.out w1 HGR.out).1; have tf := (HTF.out w1 HGR.out).2; clear hown hgrow hat)
            all_goals
              go_wp2_with fail
              go_end0
              exact merge_app hT.out hO.out hF0.out hne.out HRA.out HNA.out HNB.out (HAB.out _ _ rfl rfl) hga hgb HBT.out HRB.out.lt HW1.out HGR.out HAT.out
          · go_wp2_with fail
            go_end0
            exact merge_copy m0 hT.out hO.out hF0.out hne.out HA.out HXA.out HBT.out
        · go_wp2_with fail
          go_end0
          exact merge_none n0 hT.out hO.out hF0.out hne.out HA.out HB.out HXA.out HXB.out HBT.out
    · go_upto_region 4 with (fail)
      have E1 := Lib.hid e1
      clear e1 c1 c2 c3 d1 d2 f1 f2
      replace hT : Hid (((v0.setCell ⟨T, 2, none⟩ (.int .i32 (p 2))).setCell ⟨T, 2 + 1, none⟩ (.int .i32 (p 3))).heap[T]? = some (.cells (dA (fun i => if i / 2 = 1 then p i else (fun i => if i / 2 = 0 then p i else q i) i) xb m cb) 47 (0, 0))) := Lib.hid (heap_setCell_same _ T (2 + 1) _ 47 _ (heap_setCell_same v0 T 2 _ 47 _ hT.out))
      replace hO := Lib.hid ((hO.out.set 2 (.int .i32 (p 2))).set (2 + 1) (.int .i32 (p 3)))
      replace hF := Lib.hid ((hO.out.2.1 F hne.out).trans hF0.out)
      generalize (v0.setCell _ _).setCell _ _ = v1 at *
      have c1 : v1.cell? ⟨F, 4, none⟩ = some (.int .i32 (p 4)) := (cell_of_row _ _ 4 _ _ _ hF.out).trans rfl
      have c2 : v1.cell? ⟨F, 4 + 1, none⟩ = some (.int .i32 (p 5)) := (cell_of_row _ _ 5 _ _ _ hF.out).trans rfl
      have c3 : v1.cell? ⟨F, 5, none⟩ = some (.int .i32 (p 5)) := c2
      have d1 : v1.cell? ⟨T, 4, none⟩ = some (.int .i32 ((fun i => if i / 2 = 1 then p i else (fun i => if i / 2 = 0 then p i else q i) i) 4)) := (cell_of_row _ _ 4 _ _ _ hT.out).trans rfl
      have d2 : v1.cell? ⟨T, 4 + 1, none⟩ = some (.int .i32 ((fun i => if i / 2 = 1 then p i else (fun i => if i / 2 = 0 then p i else q i) i) 5)) := (cell_of_row _ _ 5 _ _ _ hT.out).trans rfl
      have f1 : v1.frozen? ⟨T, 4, none⟩ = false := frozen_of_row _ _ 4 _ _ hT.out
      have f2 : v1.frozen? ⟨T, 4 + 1, none⟩ = false := frozen_of_row _ _ 5 _ _ hT.out
      rcases e2 : decide ((0 : Int) < p 5) with _ | _
      · go_upto_region 6 with (fail)
        have E2 := Lib.hid e2
        clear e2 c1 c2 c3 d1 d2 f1 f2
        have hq : dA (fun i => if i / 2 = 1 then p i else (fun i => if i / 2 = 0 then p i else q i) i) xb m cb = dA (mp p q) xb m cb := dA_eq (by have := E0.out; simp [mp] at this ⊢; omega) (by have := E0.out; simp [mp] at this ⊢; omega) (by have := E1.out; simp [mp] at this ⊢; omega) (by have := E1.out; simp [mp] at this ⊢; omega) (by have := E2.out; simp [mp] at this ⊢; omega) (by have := E2.out; simp [mp] at this ⊢; omega)
        replace hT : Hid (v1.heap[T]? = some (.cells (dA (mp p q) xb m cb) 47 (0, 0))) := Lib.hid (hq ▸ hT.out)
        clear hq E0 E1 E2
        have k6 : v1.cell? ⟨F, 6, none⟩ = some (.slice xa n ca) := (cell_of_row _ _ 6 _ _ _ hF.out).trans rfl
        have t6 : v1.cell? ⟨T, 6, none⟩ = some (.slice xb m cb) := (cell_of_row _ _ 6 _ _ _ hT.out).trans rfl
        have f6 : v1.frozen? ⟨T, 6, none⟩ = false := frozen_of_row _ _ 6 _ _ hT.out
        by_cases n0 : 0 < n
        · by_cases m0 : 0 < m
          · rcases HA.out with ⟨_, h, _⟩ | ⟨ga, h1, h2, hga, hrowa⟩
            · omega
            subst h1
            obtain rfl : n = ca := h2.symm
            clear h2
            rcases HB.out with ⟨_, h, _⟩ | ⟨gb, h1, h3, hgb, hrowb⟩
            · omega
            subst h1
            obtain rfl : m = cb := h3.symm
            clear h3
            have na := (HXA.out _ rfl)
            have nb := (HXB.out _ rfl)
            have hra := hO.out.row hrowa na.2
            have hrb := hO.out.row hrowb nb.2
            obtain ⟨i0, z0, hi, hz0, hz1, hz2, hz3⟩ := info44p
            have E1 := Lib.hid hi
            have E2 := Lib.hid hz0
            have E3 := Lib.hid hz1
            have E4 := Lib.hid hz2
            have E5 := Lib.hid hz3
            have HOW : Hid (v1.drew.ownsRow B 44 2 (.slice (some ⟨gb, 0, none⟩) m m) m ((List.range (m * 2)).map (zc zb))) := Lib.hid (own_of_row hrb.drew hgb (by unfold maxLen; omega))
            have HNW : Hid (∀ j u, ((List.range (n * 2)).map (zc za))[j]? = some u → v1.drew.cell? ((⟨ga, 0, none⟩ : Addr).add j) = some u) := Lib.hid (news_row hra.drew)
            have HON : Hid (∀ u ∈ (List.range (n * 2)).map (zc za), u.oneCell' = true) := Lib.hid (fun u hu => by obtain ⟨j, _, rfl⟩ := List.mem_map.1 hu; rfl)
            have HSB : Hid (B ≤ v1.drew.heap.size) := Lib.hid (by have := hrb.lt; show B ≤ v1.heap.size; omega)
            have HTF : Hid (∀ w1 : World, v1.drew.grownBy w1 (some gb) → w1.cell? ⟨T, 6, none⟩ = some (.slice (some ⟨gb, 0, none⟩) m m) ∧ w1.frozen? ⟨T, 6, none⟩ = false) := Lib.hid (fun w1 hg => by
              have h := (hg.block T (lt_of_block hT.out) (by intro e; cases e; exact nb.2 rfl)).trans hT.out
              exact ⟨(cell_of_row _ _ 6 _ _ _ h).trans rfl, frozen_of_row _ _ 6 _ _ h⟩)
            have HRA := Lib.hid hra
            have HRB := Lib.hid hrb
            have HNA := Lib.hid na
            have HNB := Lib.hid nb
            have hgb' := hgb
            clear hi hz0 hz1 hz2 hz3 hrowa hrowb hra hrb na nb
            go_upto_region 8 with (fail)
            go_region_law (refine step_append_lies _ rfl (.tmp 59) (.tmp 63) 45 rfl B 44 i0 z0 2 8 Try.underlying45 E1.out E2.out E4.out E5.out (by rw [E3.out]; rfl) (by decide) (.slice (some ⟨gb, 0, none⟩) m m) m ((List.range (m * 2)).map (zc zb)) (by simp [Act.eval, Act.put]) HOW.out ⟨ga, 0, none⟩ n n ((List.range (n * 2)).map (zc za)) (by simp [Act.eval, Act.put]) (by simp) HNW.out HON.out n0 (by unfold maxLen; omega) (by omega) HSB.out _ rfl ?_; intro g cap w1 hown hgrow hat hlt; have HW1 := Lib.hid hown; have HGR := Lib.hid hgrow; have HAT := Lib.hid hat; have tt := (HTF.out w1 HGR.out).1; have tf := (HTF.out w1 HGR.out).2; clear hown hgrow hat)
            all_goals
              go_wp2_with fail
              go_end0
              exact merge_app hT.out hO.out hF0.out hne.out HRA.out HNA.out HNB.out (HAB.out _ _ rfl rfl) hga hgb HBT.out HRB.out.lt HW1.out HGR.out HAT.out
          · go_wp2_with fail
            go_end0
            exact merge_copy m0 hT.out hO.out hF0.out hne.out HA.out HXA.out HBT.out
        · go_wp2_with fail
          go_end0
          exact merge_none n0 hT.out hO.out hF0.out hne.out HA.out HB.out HXA.out HXB.out HBT.out
      · go_upto_region 6 with (fail)
        have E2 := Lib.hid e2
        clear e2 c1 c2 c3 d1 d2 f1 f2
        replace hT : Hid (((v1.setCell ⟨T, 4, none⟩ (.int .i32 (p 4))).setCell ⟨T, 4 + 1, none⟩ (.int .i32 (p 5))).heap[T]? = some (.cells (dA (fun i => if i / 2 = 2 then p i else (fun i => if i / 2 = 1 then p i else (fun i => if i / 2 = 0 then p i else q i) i) i) xb m cb) 47 (0, 0))) := Lib.hid (heap_setCell_same _ T (4 + 1) _ 47 _ (heap_setCell_same v1 T 4 _ 47 _ hT.out))
        replace hO := Lib.hid ((hO.out.set 4 (.int .i32 (p 4))).set (4 + 1) (.int .i32 (p 5)))
        replace hF := Lib.hid ((hO.out.2.1 F hne.out).trans hF0.out)
        generalize (v1.setCell _ _).setCell _ _ = v2 at *
        have hq : dA (fun i => if i / 2 = 2 then p i else (fun i => if i / 2 = 1 then p i else (fun i => if i / 2 = 0 then p i else q i) i) i) xb m cb = dA (mp p q) xb m cb := dA_eq (by have := E0.out; simp [mp] at this ⊢; omega) (by have := E0.out; simp [mp] at this ⊢; omega) (by have := E1.out; simp [mp] at this ⊢; omega) (by have := E1.out; simp [mp] at this ⊢; omega) (by have := E2.out; simp [mp] at this ⊢; omega) (by have := E2.out; simp [mp] at this ⊢; omega)
        replace hT : Hid (v2.heap[T]? = some (.cells (dA (mp p q) xb m cb) 47 (0, 0))) := Lib.hid (hq ▸ hT.out)
        clear hq E0 E1 E2
        have k6 : v2.cell? ⟨F, 6, none⟩ = some (.slice xa n ca) := (cell_of_row _ _ 6 _ _ _ hF.out).trans rfl
        have t6 : v2.cell? ⟨T, 6, none⟩ = some (.slice xb m cb) := (cell_of_row _ _ 6 _ _ _ hT.out).trans rfl
        have f6 : v2.frozen? ⟨T, 6, none⟩ = false := frozen_of_row _ _ 6 _ _ hT.out
        by_cases n0 : 0 < n
        · by_cases m0 : 0 < m
          · rcases HA.out with ⟨_, h, _⟩ | ⟨ga, h1, h2, hga, hrowa⟩
            · omega
            subst h1
            obtain rfl : n = ca := h2.symm
            clear h2
            rcases HB.out with ⟨_, h, _⟩ | ⟨gb, h1, h3, hgb, hrowb⟩
            · omega
            subst h1
            obtain rfl : m = cb := h3.symm
            clear h3
            have na := (HXA.out _ rfl)
            have nb := (HXB.out _ rfl)
            have hra := hO.out.row hrowa na.2
            have hrb := hO.out.row hrowb nb.2
            obtain ⟨i0, z0, hi, hz0, hz1, hz2, hz3⟩ := info44p
            have E1 := Lib.hid hi
            have E2 := Lib.hid hz0
            have E3 := Lib.hid hz1
            have E4 := Lib.hid hz2
            have E5 := Lib.hid hz3
            have HOW : Hid (v2.drew.ownsRow B 44 2 (.slice (some ⟨gb, 0, none⟩) m m) m ((List.range (m * 2)).map (zc zb))) := Lib.hid (own_of_row hrb.drew hgb (by unfold maxLen; omega))
            have HNW : Hid (∀ j u, ((List.range (n * 2)).map (zc za))[j]? = some u → v2.drew.cell? ((⟨ga, 0, none⟩ : Addr).add j) = some u) := Lib.hid (news_row hra.drew)
            have HON : Hid (∀ u ∈ (List.range (n * 2)).map (zc za), u.oneCell' = true) := Lib.hid (fun u hu => by obtain ⟨j, _, rfl⟩ := List.mem_map.1 hu; rfl)
            have HSB : Hid (B ≤ v2.drew.heap.size) := Lib.hid (by have := hrb.lt; show B ≤ v2.heap.size; omega)
            have HTF : Hid (∀ w1 : World, v2.drew.grownBy w1 (some gb) → w1.cell? ⟨T, 6, none⟩ = some (.slice (some ⟨gb, 0, none⟩) m m) ∧ w1.frozen? ⟨T, 6, none⟩ = false) := Lib.hid (fun w1 hg => by
              have h := (hg.block T (lt_of_block hT.out) (by intro e; cases e; exact nb.2 rfl)).trans hT.out
              exact ⟨(cell_of_row _ _ 6 _ _ _ h).trans rfl, frozen_of_row _ _ 6 _ _ h⟩)
            have HRA := Lib.hid hra
            have HRB := Lib.hid hrb
            have HNA := Lib.hid na
            have HNB := Lib.hid nb
            have hgb' := hgb
            clear hi hz0 hz1 hz2 hz3 hrowa hrowb hra hrb na nb
            go_upto_region 8 with (fail)
            go_region_law (refine step_append_lies _ rfl (.tmp 59) (.tmp 63) 45 rfl B 44 i0 z0 2 8 Try.underlying45 E1.out E2.out E4.out E5.out (by rw [E3.out]; rfl) (by decide) (.slice (some ⟨gb, 0, none⟩) m m) m ((List.range (m * 2)).map (zc zb)) (by simp [Act.eval, Act.put]) HOW.out ⟨ga, 0, none⟩ n n ((List.range (n * 2)).map (zc za)) (by simp [Act.eval, Act.put]) (by simp) HNW.out HON.out n0 (by unfold maxLen; omega) (by omega) HSB.out _ rfl ?_; intro g cap w1 hown hgrow hat hlt; have HW1 := Lib.hid hown; have HGR := Lib.hid hgrow; have HAT := Lib.hid hat; have tt := (HTF.out w1 HGR.out).1; have tf := (HTF.out w1 HGR.out).2; clear hown hgrow hat)
            all_goals
              go_wp2_with fail
              go_end0
              exact merge_app hT.out hO.out hF0.out hne.out HRA.out HNA.out HNB.out (HAB.out _ _ rfl rfl) hga hgb HBT.out HRB.out.lt HW1.out HGR.out HAT.out
          · go_wp2_with fail
            go_end0
            exact merge_copy m0 hT.out hO.out hF0.out hne.out HA.out HXA.out HBT.out
        · go_wp2_with fail
          go_end0
          exact merge_none n0 hT.out hO.out hF0.out hne.out HA.out HB.out HXA.out HXB.out HBT.out
end Go.Proofs.Ytjomfebcigiekaa.de
