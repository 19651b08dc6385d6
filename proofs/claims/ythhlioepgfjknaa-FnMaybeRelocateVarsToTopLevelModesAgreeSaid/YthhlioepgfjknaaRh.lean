/-
  Law 42's own walk.
-/
import Derived.Test.YthhlioepgfjknaaRg
import Derived.BigQuiet
namespace Go.Proofs.Ythhlioepgfjknaa.rl
open Go.ChangeShapes Go.WideShapes Go.ChangeAt Go.RowKit Go.Deep Go.Proofs.Ythhlioepgfjknaa.ch
set_option linter.unusedVariables false
set_option linter.unusedSimpArgs false
set_option maxRecDepth 100000
set_option maxHeartbeats 8000000
theorem recs_len (L R : Nat → Nat) : ∀ n, (recs L R n).length = n * 3
  | 0 => rfl
  | n + 1 => by simp [recs, rec3, recs_len L R n]; omega
theorem recs_get (L R : Nat → Nat) : ∀ n i r, i < n → r < 3 → (recs L R n)[i * 3 + r]? = (rec3 (L i) (R i))[r]?
  | 0, i, r, hi, _ => by omega
  | n + 1, i, r, hi, hr => by
    unfold recs
    by_cases e : i = n
    · subst e
      rw [List.getElem?_append_right (by rw [recs_len]; omega), recs_len]
      congr 1; omega
    · rw [List.getElem?_append_left (by rw [recs_len]; omega)]
      exact recs_get L R n i r (by omega) hr
/-- A list of places and names read back. -/
def Rl (w : World) (v : Value) (k : Nat) (L R : Nat → Nat) : Prop := ∃ a c, v = .slice a k c ∧ (0 < k → ∃ g, a = some ⟨g, 0, none⟩ ∧ ∀ i, i < k → w.cell? ⟨g, i * 3, none⟩ = some (.int .i32 (L i)) ∧ w.cell? ⟨g, i * 3 + 1, none⟩ = some (.int .u32 0) ∧ w.cell? ⟨g, i * 3 + 2, none⟩ = some (.int .u32 (R i)))
theorem Own.rl {B k : Nat} {w : World} {v : Value} {L R : Nat → Nat} (h : Own B w v k (recs L R k)) : Rl w v k L R := by
  have h' := h
  obtain ⟨h1, h2⟩ := h'
  rcases h2 with ⟨rfl, rfl⟩ | ⟨g, cap, cur, fz, rfl, _⟩
  · exact ⟨none, 0, rfl, fun h => by omega⟩
  · refine ⟨_, _, rfl, fun _ => ⟨g, rfl, fun i hi => ?_⟩⟩
    have hc : ∀ r u, (recs L R k)[i * 3 + r]? = some u → w.cell? ⟨g, i * 3 + r, none⟩ = some u := fun r u hu => by
      have := World.ownsRowF.cells h (g := g) rfl _ u hu
      rw [Go.WideShapes.add_plain, Nat.zero_add] at this
      exact this
    exact ⟨hc 0 _ (by rw [recs_get L R k i 0 hi (by omega)]; rfl), hc 1 _ (by rw [recs_get L R k i 1 hi (by omega)]; rfl), hc 2 _ (by rw [recs_get L R k i 2 hi (by omega)]; rfl)⟩
theorem Rl.below {B k : Nat} {w w' : World} {v : Value} {L R : Nat → Nat} (h : Rl w v k L R) (hb : Below B w w') (hB : w.heap.size ≤ B) : Rl w' v k L R := by
  obtain ⟨a, c, rfl, h⟩ := h
  refine ⟨a, c, rfl, fun h0 => ?_⟩
  obtain ⟨g, rfl, hc⟩ := h h0
  refine ⟨g, rfl, fun i hi => ?_⟩
  obtain ⟨c0, c1, c2⟩ := hc i hi
  have hk := hb.block g (Nat.lt_of_lt_of_le (block_lt_of_cell c0) hB)
  exact ⟨(World.cell?_of_block (a := ⟨g, i * 3, none⟩) hk).trans c0, (World.cell?_of_block (a := ⟨g, i * 3 + 1, none⟩) hk).trans c1, (World.cell?_of_block (a := ⟨g, i * 3 + 2, none⟩) hk).trans c2⟩
/-- The order of two results. -/
theorem cb_le (has : Nat → Bool) : ∀ n, cb false has n = true → cb true has n = true
  | 0, h => by cases h
  | n + 1, h => by simp [cb]
/-- One half of the run: a set-up, one mode: what is left. -/
structure Half (w W : World) (p : Nat) (rv : Value) (n k : Nat) (R : Nat → Nat) : Prop where
  bel : Below w.heap.size w W
  cell : W.cell? ⟨p, 196, none⟩ = some rv
  list : Rl W rv k (fun i => i) R
  lt : w.heap.size ≤ p
theorem Half.later {w W W' : World} {p n k : Nat} {rv : Value} {R : Nat → Nat} (h : Half w W p rv n k R) (hb : Below W.heap.size W W') : Half w W' p rv n k R :=
  ⟨h.bel.trans (hb.mono h.bel.size), (World.cell?_of_block (a := ⟨p, 196, none⟩) (hb.block p (block_lt_of_cell h.cell))).trans h.cell, h.list.below hb (Nat.le_refl _), h.lt⟩
theorem half_of {w W0 W : World} {p s n : Nat} {R : Nat → Nat} {ok : Bool} {rv : Value} (hb : Below w.heap.size w W0) (hp : w.heap.size ≤ p) (hs : w.heap.size ≤ s)
    (hc : W.cell? ⟨p, 196, none⟩ = some rv) (ho : Own W0.heap.size W rv (if ok then n else 0) (recs (fun i => i) R (if ok then n else 0))) (ht : ch.Touch (fun b => b = p ∨ b = s) W0 W) : Half w W p rv n (if ok then n else 0) R :=
  ⟨hb.trans (ht.below hb.size (by rintro k (rfl | rfl) <;> omega)), hc, ho.rl, hp⟩
theorem tdN {F : Nat → Prop} {a w : World} (h : ch.Touch F a w) (q : Nat) : ch.Touch F a (w.drewN q) := ⟨h.os, h.tape, h.output, h.size, h.block⟩
theorem law6 (w : World) (mc : Nat) (depth : Int) (ca ra ha : Option Addr) (nc n nh cc rc hc : Nat) (f h : Nat → Bool) (Z : Nat → Nat) (hmc : mc < 256) (h1 : nc ≤ maxLen) (h2 : n ≤ maxLen) (h3 : nh ≤ maxLen)
    (hC : Row w ca nc fun i => .bool (f i)) (hR : Row w ra n fun i => .int .u16 (Z i)) (hH : Row w ha nh fun i => .bool (h i)) (hZ : ∀ i, Z i < 65536) :
    Calls Try.prog 6 #[.int .u8 mc, .int .i64 depth, .slice ca nc cc, .slice ra n rc, .slice ha nh hc] w fun e w' => e = .returned (.bool true) ∧ Below w.heap.size w w' := by
  have HC := Lib.hid hC
  have HR := Lib.hid hR
  have HH := Lib.hid hH
  have HZ := Lib.hid hZ
  have HL := Lib.hid (And.intro h1 (And.intro h2 h3))
  clear hC hR hH hZ h1 h2 h3
  by_cases hall : nc ≤ 65536 ∧ n ≤ 65536 ∧ nh ≤ 65536
  rotate_left
  · have hb : (¬ nc ≤ 65536) ∨ (nc ≤ 65536 ∧ ¬ n ≤ 65536) ∨ (nc ≤ 65536 ∧ n ≤ 65536 ∧ ¬ nh ≤ 65536) := by omega
    clear hall
    rcases hb with hb | ⟨hb1, hb⟩ | ⟨hb1, hb2, hb⟩
    · have d1 : decide ((65536 : Int) < (nc : Int)) = true := by simp; omega
      clear hb
      go_enter Try.func6, Try.ntmps6
      go_upto_if 35 with (go_at_call 25; refine (bytes25 _ _ _ _ _ _ _ _ _ _ _ _ HL.out.1 HL.out.2.1 HL.out.2.2).mono ?_; rintro _ _ ⟨⟨b, rfl⟩, rfl⟩)
      cases b
      all_goals
        go_wp2_with fail
        go_ret
        exact ⟨rfl, Below.refl _ _⟩
    · have d1 : decide ((65536 : Int) < (nc : Int)) = false := by simp; omega
      have d2 : decide ((65536 : Int) < (n : Int)) = true := by simp; omega
      clear hb hb1
      go_enter Try.func6, Try.ntmps6
      go_upto_if 35 with (go_at_call 25; refine (bytes25 _ _ _ _ _ _ _ _ _ _ _ _ HL.out.1 HL.out.2.1 HL.out.2.2).mono ?_; rintro _ _ ⟨⟨b, rfl⟩, rfl⟩)
      cases b
      all_goals
        go_wp2_with fail
        go_ret
        exact ⟨rfl, Below.refl _ _⟩
    · have d1 : decide ((65536 : Int) < (nc : Int)) = false := by simp; omega
      have d2 : decide ((65536 : Int) < (n : Int)) = false := by simp; omega
      have d3 : decide ((65536 : Int) < (nh : Int)) = true := by simp; omega
      clear hb hb1 hb2
      go_enter Try.func6, Try.ntmps6
      go_upto_if 35 with (go_at_call 25; refine (bytes25 _ _ _ _ _ _ _ _ _ _ _ _ HL.out.1 HL.out.2.1 HL.out.2.2).mono ?_; rintro _ _ ⟨⟨b, rfl⟩, rfl⟩)
      cases b
      all_goals
        go_wp2_with fail
        go_ret
        exact ⟨rfl, Below.refl _ _⟩
  · obtain ⟨g1, g2, g3⟩ := hall
    have HG := Lib.hid (And.intro g1 (And.intro g2 g3))
    have d1 : decide ((65536 : Int) < (nc : Int)) = false := by simp; omega
    have d2 : decide ((65536 : Int) < (n : Int)) = false := by simp; omega
    have d3 : decide ((65536 : Int) < (nh : Int)) = false := by simp; omega
    obtain ⟨ok, hok⟩ : ∃ ok : Bool, ok = true ↔ okB ((mc % 3 : Nat) : Int) depth nc f := by
      by_cases h : okB ((mc % 3 : Nat) : Int) depth nc f
      · exact ⟨true, fun _ => h, fun _ => rfl⟩
      · exact ⟨false, fun e => (by cases e), fun e => absurd e h⟩
    have HOK := Lib.hid hok
    clear hok g1 g2 g3
    go_enter Try.func6, Try.ntmps6
    go_upto_if 35 with (go_at_call 25; refine (bytes25 _ _ _ _ _ _ _ _ _ _ _ _ HL.out.1 HL.out.2.1 HL.out.2.2).mono ?_; rintro _ _ ⟨⟨b, rfl⟩, rfl⟩)
    cases b with
    | false =>
      go_wp2_with fail
      go_ret
      exact ⟨rfl, Below.refl _ _⟩
    | true =>
      go_upto_if 48 with fail
      clear HL
      go_upto_region 6 with (go_at_call 26; refine (set26 _ mc depth ca ra ha nc n nh cc rc hc f h Z hmc HG.out.1 HG.out.2.1 HG.out.2.2 HC.out HR.out HH.out HZ.out (fun i => Z i % n) (fun _ => rfl) (fun i => decide (i < nh) && h i) (fun _ => rfl)).mono ?_; rintro _ V1 ⟨p1, s1, dd1, c1, m1, bi1, b1, rfl, hst1, hsc1, hde1, hds1, hdp1, hbp1, hp1, hs1, hbel1⟩)
      clear d1 d2 d3
      have HS1 := Lib.hid (And.intro hst1 (And.intro hsc1 hde1))
      have HBP1 := Lib.hid hbp1
      have HBE1 := Lib.hid hbel1
      clear hst1 hsc1 hde1 hbp1 hbel1
      by_cases hx1 : ok = true ∧ cb false (fun i => decide (i < nh) && h i) n = true
      · as_aux_lemma =>
        have hx2 : ok = true ∧ cb true (fun i => decide (i < nh) && h i) n = true := ⟨hx1.1, cb_le _ _ hx1.2⟩
        have hX1 := Lib.hid hx1
        have hX2 := Lib.hid hx2
        clear hx1 hx2
        go_upto_region 7 with (go_at_call 27; refine (mode27 V1 p1 s1 n _ c1 m1 depth dd1 n bi1 (fun i => Z i % n) (fun i => i) (fun i => decide (i < nh) && h i) nc f HS1.out.1 HS1.out.2.1 HS1.out.2.2 HG.out.2.1 (fun j hj => Nat.mod_lt _ (by omega)) hds1 hdp1 HBP1.out ok HOK.out).mono ?_; rintro _ V2 ⟨e1, l1, rv1, rfl, hd1, hc1, ho1, ht1⟩; have HHF1 := Lib.hid (half_of HBE1.out hp1 hs1 hc1 ho1 ht1); obtain ⟨Te1, ye1, rfl⟩ : NN e1 := (by rw [if_pos (hX1.out)] at hd1; exact hd1); clear hd1 hc1 ho1 ht1)
        have HA := Lib.hid (HHF1.out.later ((Below.refl _ _).alloc (Nat.le_refl _) (.cells #[.iface Te1 (ptr ye1), .int .i32 l1] 67)))
        have X1 : (V2.alloc (.cells #[.iface Te1 (ptr ye1), .int .i32 l1] 67)).heap[V2.heap.size]? = some (.cells #[.iface Te1 (ptr ye1), .int .i32 l1] 67 (0, 0)) := heap_alloc_new _ _
        have HX1 := Lib.hid X1
        clear X1 HHF1 HS1 HBE1 HBP1 hds1 hdp1 hp1 hs1
        generalize V2.alloc (.cells #[.iface Te1 (ptr ye1), .int .i32 l1] 67) = U1 at *
        generalize V2.heap.size = q1 at *
        have hq1 : q1 < U1.heap.size := lt_of_block HX1.out
        go_upto_region 8 with (go_at_call 26; refine (set26 _ mc depth ca ra ha nc n nh cc rc hc f h Z hmc HG.out.1 HG.out.2.1 HG.out.2.2 (HC.out.below HA.out.bel) (HR.out.below HA.out.bel) (HH.out.below HA.out.bel) HZ.out (fun i => Z i % n) (fun _ => rfl) (fun i => decide (i < nh) && h i) (fun _ => rfl)).mono ?_; rintro _ V3 ⟨p2, s2, dd2, c2, m2, bi2, b2, rfl, hst2, hsc2, hde2, hds2, hdp2, hbp2, hp2, hs2, hbel2⟩; have HS2 := Lib.hid (And.intro hst2 (And.intro hsc2 hde2)); have HBP2 := Lib.hid hbp2; have HBE2 := Lib.hid hbel2; clear hst2 hsc2 hde2 hbp2 hbel2)
        go_upto_region 9 with (go_at_call 28; refine (mode28 V3 p2 s2 n _ c2 m2 depth dd2 n bi2 (fun i => Z i % n) (fun i => i) (fun i => decide (i < nh) && h i) nc f HS2.out.1 HS2.out.2.1 HS2.out.2.2 HG.out.2.1 (fun j hj => Nat.mod_lt _ (by omega)) hds2 hdp2 HBP2.out ok HOK.out).mono ?_; rintro _ V4 ⟨e2, l2, rv2, rfl, hd2, hc2, ho2, ht2⟩; have HHF2 := Lib.hid (half_of HBE2.out hp2 hs2 hc2 ho2 ht2); obtain ⟨Te2, ye2, rfl⟩ : NN e2 := (by rw [if_pos (hX2.out)] at hd2; exact hd2); clear hd2 hc2 ho2 ht2)
        have HB := Lib.hid (HHF2.out.later ((Below.refl _ _).alloc (Nat.le_refl _) (.cells #[.iface Te2 (ptr ye2), .int .i32 l2] 67)))
        have X2 : (V4.alloc (.cells #[.iface Te2 (ptr ye2), .int .i32 l2] 67)).heap[V4.heap.size]? = some (.cells #[.iface Te2 (ptr ye2), .int .i32 l2] 67 (0, 0)) := heap_alloc_new _ _
        have HX2 := Lib.hid X2
        clear X2 HHF2 HS2 HBE2 HBP2 hds2 hdp2 hp2 hs2
        generalize V4.alloc (.cells #[.iface Te2 (ptr ye2), .int .i32 l2] 67) = U2 at *
        generalize V4.heap.size = q2 at *
        have hq2 : q2 < U2.heap.size := lt_of_block HX2.out
        have HA2 := Lib.hid (HA.out.later HB.out.bel)
        have HX1' := Lib.hid ((HB.out.bel.block q1 hq1).trans HX1.out)
        have hz12 := HB.out.bel.size
        go_upto_region 10 with (go_at_call 26; refine (set26 _ mc depth ca none none nc 0 0 cc 0 0 f (fun _ => false) (fun _ => 0) hmc HG.out.1 (by omega) (by omega) (HC.out.below HA2.out.bel) (fun h => by omega) (fun h => by omega) (fun _ => by omega) (fun i => 0 % 0) (fun _ => rfl) (fun i => decide (i < 0) && false) (fun _ => rfl)).mono ?_; rintro _ V5 ⟨p3, s3, dd3, c3, m3, bi3, b3, rfl, hst3, hsc3, hde3, hds3, hdp3, hbp3, hp3, hs3, hbel3⟩; have HS3 := Lib.hid (And.intro hst3 (And.intro hsc3 hde3)); have HBP3 := Lib.hid hbp3; have HBE3 := Lib.hid hbel3; clear hst3 hsc3 hde3 hbp3 hbel3)
        go_upto_region 11 with (go_at_call 27; refine (mode27 V5 p3 s3 0 _ c3 m3 depth dd3 0 bi3 (fun i => 0 % 0) (fun i => i) (fun i => decide (i < 0) && false) nc f HS3.out.1 HS3.out.2.1 HS3.out.2.2 (by omega) (fun j hj => by omega) hds3 hdp3 HBP3.out ok HOK.out).mono ?_; rintro _ V6 ⟨e3, l3, rv3, rfl, hd3, hc3, ho3, ht3⟩; have HHF3 := Lib.hid (half_of HBE3.out hp3 hs3 hc3 ho3 ht3); obtain rfl : e3 = .nilIface := (by rw [if_neg (by rintro ⟨_, h⟩; cases h)] at hd3; exact hd3); clear hd3 hc3 ho3 ht3)
        have HD := Lib.hid (HHF3.out.later ((Below.refl _ _).alloc (Nat.le_refl _) (.cells #[.nilIface, .int .i32 l3] 67)))
        clear HHF3 HS3 HBE3 HBP3 hds3 hdp3 hp3 hs3
        generalize V6.alloc (.cells #[.nilIface, .int .i32 l3] 67) = U3 at *
        have HA3 := Lib.hid (HA2.out.later HD.out.bel)
        have HB3 := Lib.hid (HB.out.later HD.out.bel)
        have k1 : U3.cell? ⟨q1, 0, none⟩ = some (.iface Te1 (ptr ye1)) := by rw [cell_of_row U3 _ 0 _ _ _ ((HD.out.bel.block q1 (by omega)).trans HX1'.out)]; rfl
        have k2 : U3.cell? ⟨q2, 0, none⟩ = some (.iface Te2 (ptr ye2)) := by rw [cell_of_row U3 _ 0 _ _ _ ((HD.out.bel.block q2 hq2).trans HX2.out)]; rfl
        obtain ⟨a1, w1c, rfl, hl1⟩ := HA3.out.list
        obtain ⟨a2, w2c, rfl, hl2⟩ := HB3.out.list
        have HL1 := Lib.hid hl1
        have HL2 := Lib.hid hl2
        have P1 := Lib.hid HA3.out.cell
        have P2 := Lib.hid HB3.out.cell
        have HW := Lib.hid HA3.out.bel
        clear hl1 hl2 HA HA2 HA3 HB HB3 HD HX1 HX1' HX2
        obtain ⟨kk, hkk⟩ : ∃ kk, (if ok = true then n else 0) = kk := ⟨_, rfl⟩
        have hk6 : kk ≤ 65536 := by have := HG.out.2.1; rw [← hkk]; split <;> omega
        rw [hkk] at HL1 HL2 P1 P2
        clear hkk HOK hX1 hX2
        go_upto_region 19 with (first
          | (go_at_call 29; refine (vars29 _ p1 _ a1 kk w1c rfl P1.out).mono ?_; rintro _ _ ⟨rfl, rfl⟩)
          | (go_at_call 29; refine (vars29 _ p2 _ a2 kk w2c rfl P2.out).mono ?_; rintro _ _ ⟨rfl, rfl⟩))
        clear k1 k2
        have HT := Lib.hid (ch.Touch.refl (fun _ => False) U3)
        go_wp2_with fail
        go_loopw [28] (fun v wr => ∃ i : Nat, v = .int .i64 i ∧ i ≤ kk ∧ ch.Touch (fun _ => False) U3 wr) (fun v _ => kk - (intOf v).toNat)
        case atStart => exact ⟨0, rfl, by omega, HT.out⟩
        case round =>
          obtain ⟨i, rfl, hi, htt⟩ := hrel
          rename World => wr
          have HTT := Lib.hid htt
          clear htt HT
          by_cases hlt : i < kk
          · obtain ⟨g1, rfl, hc1⟩ := HL1.out (by omega)
            obtain ⟨g2, rfl, hc2⟩ := HL2.out (by omega)
            obtain ⟨x0, x1, x2⟩ := hc1 i hlt
            obtain ⟨y0, y1, y2⟩ := hc2 i hlt
            have u0 := (Tc HTT.out (block_lt_of_cell x0) id).trans x0
            have u1 := (Tc HTT.out (block_lt_of_cell x1) id).trans x1
            have u2 := (Tc HTT.out (block_lt_of_cell x2) id).trans x2
            have v0 := (Tc HTT.out (block_lt_of_cell y0) id).trans y0
            have v1 := (Tc HTT.out (block_lt_of_cell y1) id).trans y1
            have v2 := (Tc HTT.out (block_lt_of_cell y2) id).trans y2
            have n0 : ((i : Int) != (i : Int)) = false := by simp
            have n1 : (((Z i % n : Nat) : Int) != ((Z i % n : Nat) : Int)) = false := by simp
            generalize Z i % n = r at *
            clear hc1 hc2 x0 x1 x2 y0 y1 y2
            go_upto_region 22 with fail
            go_quiet (fail)
            go_wp2_with fail
            go_roundw
            case rel => exact ⟨i + 1, by go_num, by omega, tdN HTT.out _⟩
            case measure => simp [intOf]; omega
          · obtain rfl : i = kk := by omega
            go_wp2_with fail
            go_ret
            exact ⟨rfl, HW.out.trans ((HTT.out.below (Nat.le_refl _) (fun _ h => h.elim)).mono HW.out.size)⟩
      · by_cases hx2 : ok = true ∧ cb true (fun i => decide (i < nh) && h i) n = true
        · as_aux_lemma =>
          have hX1 := Lib.hid hx1
          have hX2 := Lib.hid hx2
          clear hx1 hx2
          go_upto_region 7 with (go_at_call 27; refine (mode27 V1 p1 s1 n _ c1 m1 depth dd1 n bi1 (fun i => Z i % n) (fun i => i) (fun i => decide (i < nh) && h i) nc f HS1.out.1 HS1.out.2.1 HS1.out.2.2 HG.out.2.1 (fun j hj => Nat.mod_lt _ (by omega)) hds1 hdp1 HBP1.out ok HOK.out).mono ?_; rintro _ V2 ⟨e1, l1, rv1, rfl, hd1, hc1, ho1, ht1⟩; have HHF1 := Lib.hid (half_of HBE1.out hp1 hs1 hc1 ho1 ht1); obtain rfl : e1 = .nilIface := (by rw [if_neg (hX1.out)] at hd1; exact hd1); clear hd1 hc1 ho1 ht1)
          have HA := Lib.hid (HHF1.out.later ((Below.refl _ _).alloc (Nat.le_refl _) (.cells #[.nilIface, .int .i32 l1] 67)))
          have X1 : (V2.alloc (.cells #[.nilIface, .int .i32 l1] 67)).heap[V2.heap.size]? = some (.cells #[.nilIface, .int .i32 l1] 67 (0, 0)) := heap_alloc_new _ _
          have HX1 := Lib.hid X1
          clear X1 HHF1 HS1 HBE1 HBP1 hds1 hdp1 hp1 hs1
          generalize V2.alloc (.cells #[.nilIface, .int .i32 l1] 67) = U1 at *
          generalize V2.heap.size = q1 at *
          have hq1 : q1 < U1.heap.size := lt_of_block HX1.out
          go_upto_region 8 with (go_at_call 26; refine (set26 _ mc depth ca ra ha nc n nh cc rc hc f h Z hmc HG.out.1 HG.out.2.1 HG.out.2.2 (HC.out.below HA.out.bel) (HR.out.below HA.out.bel) (HH.out.below HA.out.bel) HZ.out (fun i => Z i % n) (fun _ => rfl) (fun i => decide (i < nh) && h i) (fun _ => rfl)).mono ?_; rintro _ V3 ⟨p2, s2, dd2, c2, m2, bi2, b2, rfl, hst2, hsc2, hde2, hds2, hdp2, hbp2, hp2, hs2, hbel2⟩; have HS2 := Lib.hid (And.intro hst2 (And.intro hsc2 hde2)); have HBP2 := Lib.hid hbp2; have HBE2 := Lib.hid hbel2; clear hst2 hsc2 hde2 hbp2 hbel2)
          go_upto_region 9 with (go_at_call 28; refine (mode28 V3 p2 s2 n _ c2 m2 depth dd2 n bi2 (fun i => Z i % n) (fun i => i) (fun i => decide (i < nh) && h i) nc f HS2.out.1 HS2.out.2.1 HS2.out.2.2 HG.out.2.1 (fun j hj => Nat.mod_lt _ (by omega)) hds2 hdp2 HBP2.out ok HOK.out).mono ?_; rintro _ V4 ⟨e2, l2, rv2, rfl, hd2, hc2, ho2, ht2⟩; have HHF2 := Lib.hid (half_of HBE2.out hp2 hs2 hc2 ho2 ht2); obtain ⟨Te2, ye2, rfl⟩ : NN e2 := (by rw [if_pos (hX2.out)] at hd2; exact hd2); clear hd2 hc2 ho2 ht2)
          have HB := Lib.hid (HHF2.out.later ((Below.refl _ _).alloc (Nat.le_refl _) (.cells #[.iface Te2 (ptr ye2), .int .i32 l2] 67)))
          have X2 : (V4.alloc (.cells #[.iface Te2 (ptr ye2), .int .i32 l2] 67)).heap[V4.heap.size]? = some (.cells #[.iface Te2 (ptr ye2), .int .i32 l2] 67 (0, 0)) := heap_alloc_new _ _
          have HX2 := Lib.hid X2
          clear X2 HHF2 HS2 HBE2 HBP2 hds2 hdp2 hp2 hs2
          generalize V4.alloc (.cells #[.iface Te2 (ptr ye2), .int .i32 l2] 67) = U2 at *
          generalize V4.heap.size = q2 at *
          have hq2 : q2 < U2.heap.size := lt_of_block HX2.out
          have HA2 := Lib.hid (HA.out.later HB.out.bel)
          have HX1' := Lib.hid ((HB.out.bel.block q1 hq1).trans HX1.out)
          have hz12 := HB.out.bel.size
          go_upto_region 10 with (go_at_call 26; refine (set26 _ mc depth ca none none nc 0 0 cc 0 0 f (fun _ => false) (fun _ => 0) hmc HG.out.1 (by omega) (by omega) (HC.out.below HA2.out.bel) (fun h => by omega) (fun h => by omega) (fun _ => by omega) (fun i => 0 % 0) (fun _ => rfl) (fun i => decide (i < 0) && false) (fun _ => rfl)).mono ?_; rintro _ V5 ⟨p3, s3, dd3, c3, m3, bi3, b3, rfl, hst3, hsc3, hde3, hds3, hdp3, hbp3, hp3, hs3, hbel3⟩; have HS3 := Lib.hid (And.intro hst3 (And.intro hsc3 hde3)); have HBP3 := Lib.hid hbp3; have HBE3 := Lib.hid hbel3; clear hst3 hsc3 hde3 hbp3 hbel3)
          go_upto_region 11 with (go_at_call 27; refine (mode27 V5 p3 s3 0 _ c3 m3 depth dd3 0 bi3 (fun i => 0 % 0) (fun i => i) (fun i => decide (i < 0) && false) nc f HS3.out.1 HS3.out.2.1 HS3.out.2.2 (by omega) (fun j hj => by omega) hds3 hdp3 HBP3.out ok HOK.out).mono ?_; rintro _ V6 ⟨e3, l3, rv3, rfl, hd3, hc3, ho3, ht3⟩; have HHF3 := Lib.hid (half_of HBE3.out hp3 hs3 hc3 ho3 ht3); obtain rfl : e3 = .nilIface := (by rw [if_neg (by rintro ⟨_, h⟩; cases h)] at hd3; exact hd3); clear hd3 hc3 ho3 ht3)
          have HD := Lib.hid (HHF3.out.later ((Below.refl _ _).alloc (Nat.le_refl _) (.cells #[.nilIface, .int .i32 l3] 67)))
          clear HHF3 HS3 HBE3 HBP3 hds3 hdp3 hp3 hs3
          generalize V6.alloc (.cells #[.nilIface, .int .i32 l3] 67) = U3 at *
          have HA3 := Lib.hid (HA2.out.later HD.out.bel)
          have HB3 := Lib.hid (HB.out.later HD.out.bel)
          have k1 : U3.cell? ⟨q1, 0, none⟩ = some (.nilIface) := by rw [cell_of_row U3 _ 0 _ _ _ ((HD.out.bel.block q1 (by omega)).trans HX1'.out)]; rfl
          have k2 : U3.cell? ⟨q2, 0, none⟩ = some (.iface Te2 (ptr ye2)) := by rw [cell_of_row U3 _ 0 _ _ _ ((HD.out.bel.block q2 hq2).trans HX2.out)]; rfl
          obtain ⟨a1, w1c, rfl, hl1⟩ := HA3.out.list
          obtain ⟨a2, w2c, rfl, hl2⟩ := HB3.out.list
          have HL1 := Lib.hid hl1
          have HL2 := Lib.hid hl2
          have P1 := Lib.hid HA3.out.cell
          have P2 := Lib.hid HB3.out.cell
          have HW := Lib.hid HA3.out.bel
          clear hl1 hl2 HA HA2 HA3 HB HB3 HD HX1 HX1' HX2
          obtain ⟨kk, hkk⟩ : ∃ kk, (if ok = true then n else 0) = kk := ⟨_, rfl⟩
          have hk6 : kk ≤ 65536 := by have := HG.out.2.1; rw [← hkk]; split <;> omega
          rw [hkk] at HL1 HL2 P1 P2
          clear hkk HOK hX1 hX2
          go_upto_region 19 with (first
            | (go_at_call 29; refine (vars29 _ p1 _ a1 kk w1c rfl P1.out).mono ?_; rintro _ _ ⟨rfl, rfl⟩)
            | (go_at_call 29; refine (vars29 _ p2 _ a2 kk w2c rfl P2.out).mono ?_; rintro _ _ ⟨rfl, rfl⟩))
          clear k1 k2
          have HT := Lib.hid (ch.Touch.refl (fun _ => False) U3)
          go_wp2_with fail
          go_loopw [28] (fun v wr => ∃ i : Nat, v = .int .i64 i ∧ i ≤ kk ∧ ch.Touch (fun _ => False) U3 wr) (fun v _ => kk - (intOf v).toNat)
          case atStart => exact ⟨0, rfl, by omega, HT.out⟩
          case round =>
            obtain ⟨i, rfl, hi, htt⟩ := hrel
            rename World => wr
            have HTT := Lib.hid htt
            clear htt HT
            by_cases hlt : i < kk
            · obtain ⟨g1, rfl, hc1⟩ := HL1.out (by omega)
              obtain ⟨g2, rfl, hc2⟩ := HL2.out (by omega)
              obtain ⟨x0, x1, x2⟩ := hc1 i hlt
              obtain ⟨y0, y1, y2⟩ := hc2 i hlt
              have u0 := (Tc HTT.out (block_lt_of_cell x0) id).trans x0
              have u1 := (Tc HTT.out (block_lt_of_cell x1) id).trans x1
              have u2 := (Tc HTT.out (block_lt_of_cell x2) id).trans x2
              have v0 := (Tc HTT.out (block_lt_of_cell y0) id).trans y0
              have v1 := (Tc HTT.out (block_lt_of_cell y1) id).trans y1
              have v2 := (Tc HTT.out (block_lt_of_cell y2) id).trans y2
              have n0 : ((i : Int) != (i : Int)) = false := by simp
              have n1 : (((Z i % n : Nat) : Int) != ((Z i % n : Nat) : Int)) = false := by simp
              generalize Z i % n = r at *
              clear hc1 hc2 x0 x1 x2 y0 y1 y2
              go_upto_region 22 with fail
              go_quiet (fail)
              go_wp2_with fail
              go_roundw
              case rel => exact ⟨i + 1, by go_num, by omega, tdN HTT.out _⟩
              case measure => simp [intOf]; omega
            · obtain rfl : i = kk := by omega
              go_wp2_with fail
              go_ret
              exact ⟨rfl, HW.out.trans ((HTT.out.below (Nat.le_refl _) (fun _ h => h.elim)).mono HW.out.size)⟩
        · as_aux_lemma =>
          have hX1 := Lib.hid hx1
          have hX2 := Lib.hid hx2
          clear hx1 hx2
          go_upto_region 7 with (go_at_call 27; refine (mode27 V1 p1 s1 n _ c1 m1 depth dd1 n bi1 (fun i => Z i % n) (fun i => i) (fun i => decide (i < nh) && h i) nc f HS1.out.1 HS1.out.2.1 HS1.out.2.2 HG.out.2.1 (fun j hj => Nat.mod_lt _ (by omega)) hds1 hdp1 HBP1.out ok HOK.out).mono ?_; rintro _ V2 ⟨e1, l1, rv1, rfl, hd1, hc1, ho1, ht1⟩; have HHF1 := Lib.hid (half_of HBE1.out hp1 hs1 hc1 ho1 ht1); obtain rfl : e1 = .nilIface := (by rw [if_neg (hX1.out)] at hd1; exact hd1); clear hd1 hc1 ho1 ht1)
          have HA := Lib.hid (HHF1.out.later ((Below.refl _ _).alloc (Nat.le_refl _) (.cells #[.nilIface, .int .i32 l1] 67)))
          have X1 : (V2.alloc (.cells #[.nilIface, .int .i32 l1] 67)).heap[V2.heap.size]? = some (.cells #[.nilIface, .int .i32 l1] 67 (0, 0)) := heap_alloc_new _ _
          have HX1 := Lib.hid X1
          clear X1 HHF1 HS1 HBE1 HBP1 hds1 hdp1 hp1 hs1
          generalize V2.alloc (.cells #[.nilIface, .int .i32 l1] 67) = U1 at *
          generalize V2.heap.size = q1 at *
          have hq1 : q1 < U1.heap.size := lt_of_block HX1.out
          go_upto_region 8 with (go_at_call 26; refine (set26 _ mc depth ca ra ha nc n nh cc rc hc f h Z hmc HG.out.1 HG.out.2.1 HG.out.2.2 (HC.out.below HA.out.bel) (HR.out.below HA.out.bel) (HH.out.below HA.out.bel) HZ.out (fun i => Z i % n) (fun _ => rfl) (fun i => decide (i < nh) && h i) (fun _ => rfl)).mono ?_; rintro _ V3 ⟨p2, s2, dd2, c2, m2, bi2, b2, rfl, hst2, hsc2, hde2, hds2, hdp2, hbp2, hp2, hs2, hbel2⟩; have HS2 := Lib.hid (And.intro hst2 (And.intro hsc2 hde2)); have HBP2 := Lib.hid hbp2; have HBE2 := Lib.hid hbel2; clear hst2 hsc2 hde2 hbp2 hbel2)
          go_upto_region 9 with (go_at_call 28; refine (mode28 V3 p2 s2 n _ c2 m2 depth dd2 n bi2 (fun i => Z i % n) (fun i => i) (fun i => decide (i < nh) && h i) nc f HS2.out.1 HS2.out.2.1 HS2.out.2.2 HG.out.2.1 (fun j hj => Nat.mod_lt _ (by omega)) hds2 hdp2 HBP2.out ok HOK.out).mono ?_; rintro _ V4 ⟨e2, l2, rv2, rfl, hd2, hc2, ho2, ht2⟩; have HHF2 := Lib.hid (half_of HBE2.out hp2 hs2 hc2 ho2 ht2); obtain rfl : e2 = .nilIface := (by rw [if_neg (hX2.out)] at hd2; exact hd2); clear hd2 hc2 ho2 ht2)
          have HB := Lib.hid (HHF2.out.later ((Below.refl _ _).alloc (Nat.le_refl _) (.cells #[.nilIface, .int .i32 l2] 67)))
          have X2 : (V4.alloc (.cells #[.nilIface, .int .i32 l2] 67)).heap[V4.heap.size]? = some (.cells #[.nilIface, .int .i32 l2] 67 (0, 0)) := heap_alloc_new _ _
          have HX2 := Lib.hid X2
          clear X2 HHF2 HS2 HBE2 HBP2 hds2 hdp2 hp2 hs2
          generalize V4.alloc (.cells #[.nilIface, .int .i32 l2] 67) = U2 at *
          generalize V4.heap.size = q2 at *
          have hq2 : q2 < U2.heap.size := lt_of_block HX2.out
          have HA2 := Lib.hid (HA.out.later HB.out.bel)
          have HX1' := Lib.hid ((HB.out.bel.block q1 hq1).trans HX1.out)
          have hz12 := HB.out.bel.size
          go_upto_region 10 with (go_at_call 26; refine (set26 _ mc depth ca none none nc 0 0 cc 0 0 f (fun _ => false) (fun _ => 0) hmc HG.out.1 (by omega) (by omega) (HC.out.below HA2.out.bel) (fun h => by omega) (fun h => by omega) (fun _ => by omega) (fun i => 0 % 0) (fun _ => rfl) (fun i => decide (i < 0) && false) (fun _ => rfl)).mono ?_; rintro _ V5 ⟨p3, s3, dd3, c3, m3, bi3, b3, rfl, hst3, hsc3, hde3, hds3, hdp3, hbp3, hp3, hs3, hbel3⟩; have HS3 := Lib.hid (And.intro hst3 (And.intro hsc3 hde3)); have HBP3 := Lib.hid hbp3; have HBE3 := Lib.hid hbel3; clear hst3 hsc3 hde3 hbp3 hbel3)
          go_upto_region 11 with (go_at_call 27; refine (mode27 V5 p3 s3 0 _ c3 m3 depth dd3 0 bi3 (fun i => 0 % 0) (fun i => i) (fun i => decide (i < 0) && false) nc f HS3.out.1 HS3.out.2.1 HS3.out.2.2 (by omega) (fun j hj => by omega) hds3 hdp3 HBP3.out ok HOK.out).mono ?_; rintro _ V6 ⟨e3, l3, rv3, rfl, hd3, hc3, ho3, ht3⟩; have HHF3 := Lib.hid (half_of HBE3.out hp3 hs3 hc3 ho3 ht3); obtain rfl : e3 = .nilIface := (by rw [if_neg (by rintro ⟨_, h⟩; cases h)] at hd3; exact hd3); clear hd3 hc3 ho3 ht3)
          have HD := Lib.hid (HHF3.out.later ((Below.refl _ _).alloc (Nat.le_refl _) (.cells #[.nilIface, .int .i32 l3] 67)))
          clear HHF3 HS3 HBE3 HBP3 hds3 hdp3 hp3 hs3
          generalize V6.alloc (.cells #[.nilIface, .int .i32 l3] 67) = U3 at *
          have HA3 := Lib.hid (HA2.out.later HD.out.bel)
          have HB3 := Lib.hid (HB.out.later HD.out.bel)
          have k1 : U3.cell? ⟨q1, 0, none⟩ = some (.nilIface) := by rw [cell_of_row U3 _ 0 _ _ _ ((HD.out.bel.block q1 (by omega)).trans HX1'.out)]; rfl
          have k2 : U3.cell? ⟨q2, 0, none⟩ = some (.nilIface) := by rw [cell_of_row U3 _ 0 _ _ _ ((HD.out.bel.block q2 hq2).trans HX2.out)]; rfl
          obtain ⟨a1, w1c, rfl, hl1⟩ := HA3.out.list
          obtain ⟨a2, w2c, rfl, hl2⟩ := HB3.out.list
          have HL1 := Lib.hid hl1
          have HL2 := Lib.hid hl2
          have P1 := Lib.hid HA3.out.cell
          have P2 := Lib.hid HB3.out.cell
          have HW := Lib.hid HA3.out.bel
          clear hl1 hl2 HA HA2 HA3 HB HB3 HD HX1 HX1' HX2
          obtain ⟨kk, hkk⟩ : ∃ kk, (if ok = true then n else 0) = kk := ⟨_, rfl⟩
          have hk6 : kk ≤ 65536 := by have := HG.out.2.1; rw [← hkk]; split <;> omega
          rw [hkk] at HL1 HL2 P1 P2
          clear hkk HOK hX1 hX2
          go_upto_region 19 with (first
            | (go_at_call 29; refine (vars29 _ p1 _ a1 kk w1c rfl P1.out).mono ?_; rintro _ _ ⟨rfl, rfl⟩)
            | (go_at_call 29; refine (vars29 _ p2 _ a2 kk w2c rfl P2.out).mono ?_; rintro _ _ ⟨rfl, rfl⟩))
          clear k1 k2
          have HT := Lib.hid (ch.Touch.refl (fun _ => False) U3)
          go_wp2_with fail
          go_loopw [28] (fun v wr => ∃ i : Nat, v = .int .i64 i ∧ i ≤ kk ∧ ch.Touch (fun _ => False) U3 wr) (fun v _ => kk - (intOf v).toNat)
          case atStart => exact ⟨0, rfl, by omega, HT.out⟩
          case round =>
            obtain ⟨i, rfl, hi, htt⟩ := hrel
            rename World => wr
            have HTT := Lib.hid htt
            clear htt HT
            by_cases hlt : i < kk
            · obtain ⟨g1, rfl, hc1⟩ := HL1.out (by omega)
              obtain ⟨g2, rfl, hc2⟩ := HL2.out (by omega)
              obtain ⟨x0, x1, x2⟩ := hc1 i hlt
              obtain ⟨y0, y1, y2⟩ := hc2 i hlt
              have u0 := (Tc HTT.out (block_lt_of_cell x0) id).trans x0
              have u1 := (Tc HTT.out (block_lt_of_cell x1) id).trans x1
              have u2 := (Tc HTT.out (block_lt_of_cell x2) id).trans x2
              have v0 := (Tc HTT.out (block_lt_of_cell y0) id).trans y0
              have v1 := (Tc HTT.out (block_lt_of_cell y1) id).trans y1
              have v2 := (Tc HTT.out (block_lt_of_cell y2) id).trans y2
              have n0 : ((i : Int) != (i : Int)) = false := by simp
              have n1 : (((Z i % n : Nat) : Int) != ((Z i % n : Nat) : Int)) = false := by simp
              generalize Z i % n = r at *
              clear hc1 hc2 x0 x1 x2 y0 y1 y2
              go_upto_region 22 with fail
              go_quiet (fail)
              go_wp2_with fail
              go_roundw
              case rel => exact ⟨i + 1, by go_num, by omega, tdN HTT.out _⟩
              case measure => simp [intOf]; omega
            · obtain rfl : i = kk := by omega
              go_wp2_with fail
              go_ret
              exact ⟨rfl, HW.out.trans ((HTT.out.below (Nat.le_refl _) (fun _ h => h.elim)).mono HW.out.size)⟩
end Go.Proofs.Ythhlioepgfjknaa.rl
