/-
  Declared symbols: the law, walked.
-/
import Derived.Test.YtnokeaddghfggaaLb
namespace Go.Proofs.Ytnokeaddghfggaa.ds
open Go.ChangeShapes Go.WideShapes Go.ChangeAt Go.RowKit Go.Deep Go.Proofs.Ytnokeaddghfggaa.mk
set_option linter.unusedVariables false
set_option linter.unusedSimpArgs false
set_option maxRecDepth 100000 in
set_option maxHeartbeats 8000000 in
theorem law_false (w : World) (aK : Option Addr) (lk ck : Nat) (K : Nat → Int) (aN : Option Addr) (ln cn : Nat) (N : Nat → Int) (aQ : Option Addr) (lm cm : Nat) (Q : Nat → Int) (p : Nat) (aR : Option Addr) (lr cr : Nat) (R : Nat → Int) (hp : p < 256) (hK : IsInts .u8 w aK lk ck K) (hN : IsInts .u8 w aN ln cn N) (hQ : IsInts .u16 w aQ lm cm Q) (hR : IsInts .u32 w aR lr cr R) :
    Calls Try.prog 3 #[.bool false, .slice aK lk ck, .slice aN ln cn, .slice aQ lm cm, .int .u8 p, .slice aR lr cr] w (LawP w) := by
  have bK : Hid (∀ i, 0 ≤ K i ∧ K i < 256) := Lib.hid (fun i => by have := hK.2.2.2 i; simp [Lit.wf] at this; have q1 : IntKind.u8.min = 0 := rfl; have q2 : IntKind.u8.max = 255 := rfl; omega)
  have bN : Hid (∀ i, 0 ≤ N i ∧ N i < 256) := Lib.hid (fun i => by have := hN.2.2.2 i; simp [Lit.wf] at this; have q1 : IntKind.u8.min = 0 := rfl; have q2 : IntKind.u8.max = 255 := rfl; omega)
  have bQ : Hid (∀ i, 0 ≤ Q i ∧ Q i < 65536) := Lib.hid (fun i => by have := hQ.2.2.2 i; simp [Lit.wf] at this; have q1 : IntKind.u16.min = 0 := rfl; have q2 : IntKind.u16.max = 65535 := rfl; omega)
  have bR : Hid (∀ i, 0 ≤ R i ∧ R i < 4294967296) := Lib.hid (fun i => by have := hR.2.2.2 i; simp [Lit.wf] at this; have q1 : IntKind.u32.min = 0 := rfl; have q2 : IntKind.u32.max = 4294967295 := rfl; omega)
  have RK := Lib.hid hK.2.2.1
  have RN := Lib.hid hN.2.2.1
  have RQ := Lib.hid hQ.2.2.1
  have RR := Lib.hid hR.2.2.1
  clear hK hN hQ hR
  go_enter Try.func3, Try.ntmps3
  go_wp2_with fail
  refine (bytes4 w false aK lk ck aN ln cn aQ lm cm p aR lr cr).mono ?_
  rintro e w' ⟨⟨b, rfl⟩, rfl⟩
  cases b
  · go_simp
    go_wp2_with fail
    go_ret
    exact ⟨rfl, Below.refl _ _⟩
  by_cases t1 : decide ((65536 : Int) < (lk : Int)) = true
  · go_simp
    go_wp2_with fail
    go_ret
    exact ⟨rfl, Below.refl _ _⟩
  replace t1 : decide ((65536 : Int) < (lk : Int)) = false := by simpa using t1
  by_cases t2 : decide ((65536 : Int) < (ln : Int)) = true
  · go_simp
    go_wp2_with fail
    go_ret
    exact ⟨rfl, Below.refl _ _⟩
  replace t2 : decide ((65536 : Int) < (ln : Int)) = false := by simpa using t2
  by_cases t3 : decide ((65536 : Int) < (lm : Int)) = true
  · go_simp
    go_wp2_with fail
    go_ret
    exact ⟨rfl, Below.refl _ _⟩
  replace t3 : decide ((65536 : Int) < (lm : Int)) = false := by simpa using t3
  by_cases t4 : decide ((65536 : Int) < (lr : Int)) = true
  · go_simp
    go_wp2_with fail
    go_ret
    exact ⟨rfl, Below.refl _ _⟩
  replace t4 : decide ((65536 : Int) < (lr : Int)) = false := by simpa using t4
  have HF : Hid (lk ≤ 65536 ∧ ln ≤ 65536 ∧ lm ≤ 65536 ∧ lr ≤ 65536) := Lib.hid (by
    have e1 := of_decide_eq_false t1
    have e2 := of_decide_eq_false t2
    have e3 := of_decide_eq_false t3
    have e4 := of_decide_eq_false t4
    omega)
  obtain ⟨n, hn⟩ : ∃ n, lk + 1 = n := ⟨_, rfl⟩
  have hlk : (lk : Int) + 1 = (n : Int) := by omega
  have HN := Lib.hid hn
  have hn7 : n ≤ 65537 := by have := HF.out; omega
  have hlr : lr ≤ 65536 := HF.out.2.2.2
  have hn0 : 0 < n := by omega
  have hlk6 : lk ≤ 65536 := HF.out.1
  clear hn
  go_simp
  go_wp2_with fail
  refine (syms5 w' n aK lk ck K aN ln cn N hn7 HF.out.1 HF.out.2.1 bK.out bN.out RK.out RN.out).mono ?_
  rintro e w1 ⟨SB, rfl, hSB1, hSB2, hS1, hB1⟩
  have HS1 := Lib.hid hS1
  have HB1 := Lib.hid hB1
  have HSB := Lib.hid (And.intro hSB1 hSB2)
  clear hS1 hB1 hSB1 hSB2
  go_simp
  go_wp2_with fail
  refine (scopes6 w1 n aQ lm cm Q false hn7 HF.out.2.2.1 bQ.out (RQ.out.below HB1.out)).mono ?_
  rintro e w2 ⟨C, B, MB, rfl, hSc, hC1, hC2, hC3, hC4⟩
  have HSc := Lib.hid hSc
  have HC2 := Lib.hid hC2
  have HC3 := Lib.hid hC3
  have HC1 := Lib.hid hC1
  clear hSc hC1 hC2 hC3 hC4
  go_simp
  go_wp2_with fail
  have HB3 : Hid (Below w2.heap.size w2 (w2.alloc (.cells #[.slice none 0 0, .slice none 0 0, .slice none 0 0, .slice none 0 0, .map none, .map none, .map none, .slice none 0 0, .bool false, .bool false, .bool false] 40))) := Lib.hid ((Below.refl _ _).alloc (Nat.le_refl _) _)
  have HD3 : Hid (Dp (w2.alloc (.cells #[.slice none 0 0, .slice none 0 0, .slice none 0 0, .slice none 0 0, .map none, .map none, .map none, .slice none 0 0, .bool false, .bool false, .bool false] 40)) w2.heap.size 0 (.slice none 0 0) (xsOf (Fe p false lk K ln N lm Q n R) 0)) := Lib.hid (by
    have hb := heap_alloc_new w2 (.cells #[.slice none 0 0, .slice none 0 0, .slice none 0 0, .slice none 0 0, .map none, .map none, .map none, .slice none 0 0, .bool false, .bool false, .bool false] 40)
    exact ⟨cell_of_row _ _ 3 _ _ _ hb, frozen_of_row _ _ _ _ _ hb, ⟨rfl, .inl ⟨rfl, rfl⟩⟩, by simp⟩)
  generalize (w2.alloc (.cells #[.slice none 0 0, .slice none 0 0, .slice none 0 0, .slice none 0 0, .map none, .map none, .map none, .slice none 0 0, .bool false, .bool false, .bool false] 40)) = w3 at *
  obtain ⟨PB, hPB⟩ : ∃ PB, PB = w2.heap.size := ⟨_, rfl⟩
  have HPB := Lib.hid hPB
  rw [← hPB] at HD3
  rw [← hPB]
  clear hPB
  go_loopw [18] (fun i wr => ∃ (j : Nat) (a : Option Addr) (c : Nat), j ≤ p ∧ i = .int .i64 j ∧ Dp wr PB j (.slice a j c) (xsOf (Fe p false lk K ln N lm Q n R) j) ∧ Tp PB w3 wr) (fun i _ => p - (intOf i).toNat)
  case atStart => exact ⟨0, none, 0, by omega, rfl, HD3.out, Touch.refl _ _⟩
  case round =>
    obtain ⟨j, a, c, hj, rfl, hD, hT⟩ := hrel
    have HD := Lib.hid hD
    have HT := Lib.hid hT
    clear hD hT
    by_cases hjp : j < p
    · obtain ⟨k, cap, w4, hr, c4, f4, hD4, hB4⟩ := HD.out.app (by omega) (j : Int)
      have c0 := HD.out.p3
      have hPl := HD.out.lt
      have HR := Lib.hid hr
      have HD4 := Lib.hid hD4
      have HT4 : Hid (Tp PB w3 (w4.setCell ⟨PB, 3, none⟩ (.slice (some ⟨k, 0, none⟩) (j + 1) cap))) := Lib.hid (Touch.setCell (HT.out.trans ⟨hB4.os, hB4.tape, hB4.output, hB4.size, fun q hq hn => hB4.block q (by simp at hn; omega)⟩) _ (fun _ => Nat.le_refl _) _)
      clear hr hD4 hB4
      go_wp2_with (at_builtin; refine wpList_append_run rfl (.tmp 81) (.tmp 86) 34 rfl rfl rfl HR.out ?_)
      go_roundw
      case rel => exact ⟨j + 1, _, cap, by omega, by go_num, by
        have e : xsOf (Fe p false lk K ln N lm Q n R) (j + 1) = xsOf (Fe p false lk K ln N lm Q n R) j ++ [.int .u32 7, .int .u32 j, .bool false] := by rw [xsOf, Fe_lo hjp]
        rw [e]; exact HD4.out, HT4.out⟩
      case measure => simp [intOf]; omega
    · obtain rfl : j = p := by omega
      go_wp2_with fail
      rename World => wr
      refine (mode8 wr).mono ?_
      rintro e wr' ⟨rfl, rfl⟩
      rename World => wr
      go_simp
      go_wp2_with fail
      refine (new7 wr C B SB n PB).mono ?_
      rintro e w5 hN
      obtain ⟨g, rfl, hE5, hB5⟩ := De.start (lk := lk) (K := K) (ln := ln) (N := N) (HS1.out.of_block ((HB3.out.block SB (by have := HSc.out.bel.size; have := HSB.out; omega)).trans (HSc.out.bel.block SB HSB.out.2))) (by rw [HPB.out]; have := HSc.out.bel.size; have := HSB.out; omega) (HSc.out.below HB3.out) (by rw [HPB.out]; exact HSc.out.lt) (by obtain ⟨cc, hc⟩ := HC2.out; exact ⟨cc, (HB3.out.block C (lt_of_block hc)).trans hc⟩) (by rw [HPB.out]; obtain ⟨cc, hc⟩ := HC2.out; exact lt_of_block hc) HD3.out.lt HT.out HD.out hN
      have HE5 := Lib.hid hE5
      have HB5 : Hid (Below w'.heap.size w' w5) := Lib.hid (by
        have h1 : Below w'.heap.size w' w3 := (HB1.out.trans (HSc.out.bel.mono HB1.out.size)).trans (HB3.out.mono (HB1.out.trans (HSc.out.bel.mono HB1.out.size)).size)
        have h2 : Below w'.heap.size w3 wr := HT.out.below h1.size (fun q hq => by have h3 := (HB1.out.trans (HSc.out.bel.mono HB1.out.size)).size; rw [← HPB.out] at h3; omega)
        exact (h1.trans h2).trans (hB5.mono (h1.trans h2).size))
      have hPBw : w'.heap.size ≤ PB := by
        have h3 := (HB1.out.trans (HSc.out.bel.mono HB1.out.size)).size
        rw [← HPB.out] at h3; exact h3
      clear hN hE5 hB5 HD HT HD3 HS1 HB1 HSc HC2 HC1 HB3
      go_simp
      go_wp2_with fail
      go_loopw [98] (fun q wr => ∃ (t : Nat) (a : Option Addr) (c : Nat), t ≤ lr ∧ q = .int .i64 t ∧ De wr (PB + 1) g C B MB SB PB n lk K ln N lm Q (j + t) (.slice a (j + t) c) (xsOf (Fe j false lk K ln N lm Q n R) (j + t)) ∧ Below w'.heap.size w' wr) (fun q _ => lr - (intOf q).toNat)
      case atStart => exact ⟨0, a, c, by omega, rfl, HE5.out, HB5.out⟩
      case round =>
        obtain ⟨t, a, c, ht, rfl, hE, hB⟩ := hrel
        have HE := Lib.hid hE
        have HB := Lib.hid hB
        clear hE hB HE5 HB5
        by_cases htl : t < lr
        · obtain ⟨b, off, rfl, hcell⟩ := (RR.out.below HB.out) (by omega)
          have c1 : wr.cell? ⟨b, off + t, none⟩ = some (.int .u32 (R t)) := hcell t htl
          have hr := ix_rem R n t (bR.out t).1
          have hb1 := bR.out t
          have hix := ix_lt R hn0 t
          clear hcell
          go_simp
          go_wp2_with fail
          refine (ref10 wr (ix R n t) (by omega)).mono ?_
          rintro e wr2 ⟨rfl, hb⟩
          have HE2 := Lib.hid (HE.out.below hb)
          have HB2 : Hid (Below w'.heap.size w' wr2) := Lib.hid (HB.out.trans (hb.mono HB.out.size))
          clear hb c1
          go_simp
          go_wp2_with fail
          refine (rec9 wr2 (PB + 1) g C B MB SB PB n lk K ln N lm Q (j + t) a c _ (ix R n t) false HE2.out (by simpa using HC3.out) hix hn7 (by omega) (fun i => (bQ.out i).1)).mono ?_
          rintro e wr3 ⟨rfl, ⟨k, cap, hDc, hDl⟩, hT⟩
          have HE3 : Hid (De wr3 (PB + 1) g C B MB SB PB n lk K ln N lm Q (j + (t + 1)) (.slice (some ⟨k, 0, none⟩) (j + (t + 1)) cap) (xsOf (Fe j false lk K ln N lm Q n R) (j + (t + 1)))) := Lib.hid (by
            have e : xsOf (Fe j false lk K ln N lm Q n R) (j + (t + 1)) = xsOf (Fe j false lk K ln N lm Q n R) (j + t) ++ [.int .u32 1, .int .u32 (ix R n t : Nat), .bool (tv false lk K ln N lm Q n (ix R n t))] := by rw [← Nat.add_assoc, xsOf, Fe_hi]
            rw [e]; exact ⟨hDc, hDl⟩)
          have HB3 : Hid (Below w'.heap.size w' wr3) := Lib.hid (HB2.out.trans (hT.below HB2.out.size (fun q hq => by omega)))
          clear hDc hDl hT
          go_simp
          go_wp2_with fail
          go_roundw
          case rel => exact ⟨_, _, ⟨t + 1, by omega, by go_num, ⟨_, cap, HE3.out⟩, HB3.out⟩, _, _, _, _, _, _, _, _, _, _, _, _, rfl⟩
          case measure => simp [intOf]; omega
        · obtain rfl : t = lr := by omega
          obtain ⟨M, hM⟩ : ∃ M, M = j + t := ⟨_, rfl⟩
          have hM2 : (j : Int) + (t : Int) = (M : Int) := by omega
          have c1 := HE.out.2.p3
          rw [← hM] at c1
          have HM := Lib.hid hM
          clear hM
          go_simp
          go_wp2_with fail
          have HE0 : Hid (wr.ownsRow (PB + 1) 45 3 (.slice a M c) M (xsOf (Fe j false lk K ln N lm Q n R) M)) := Lib.hid (by have h := HE.out.2.own; rw [HM.out]; exact h)
          have HFM : Hid (M = j + t) := HM
          clear HM HE c1
          go_loop [23] (fun q => ∃ i : Nat, i ≤ j ∧ q = .int .i64 i) (fun q => j - (intOf q).toNat)
          case atStart => exact ⟨0, by omega, rfl⟩
          case round =>
            obtain ⟨i, hi, rfl⟩ := hrel
            by_cases hij : i < j
            · have hiM : i < M := by rw [HFM.out]; omega
              obtain ⟨k, rfl, hMc, hcl⟩ := entry_cells HE0.out (Fe_len) hiM
              rw [Fe_lo hij] at hcl
              have d0 : wr.cell? ⟨k, i * 3, none⟩ = some (.int .u32 7) := hcl 0 _ (by omega) rfl
              have d1 := hcl 1 _ (by omega) rfl
              have d2 := hcl 2 _ (by omega) rfl
              have hq := neq43 wr 7 i 7 i true (by simp)
              clear hcl
              go_simp
              go_wp2_with fail
              exact ⟨⟨i + 1, by omega, by omega⟩, by simp [intOf]; omega⟩
            · obtain rfl : i = j := by omega
              go_simp
              go_wp2_with fail
              go_loopw [147] (fun q W => ∃ s : Nat, s ≤ t ∧ q = .int .i64 s ∧ Below wr.heap.size wr W) (fun q _ => t - (intOf q).toNat)
              case atStart => exact ⟨0, by omega, rfl, Below.refl _ _⟩
              case round =>
                obtain ⟨s, hs, rfl, hW⟩ := hrel
                have HW := Lib.hid hW
                clear hW
                rename World => W
                by_cases hss : s < t
                · have hsM : i + s < M := by rw [HFM.out]; omega
                  obtain ⟨k, rfl, hMc, hcl⟩ := entry_cells HE0.out Fe_len hsM
                  obtain ⟨b, off, rfl, hcell⟩ := ((RR.out.below HB.out).below HW.out) (by omega)
                  have hkl : k < wr.heap.size := (HE0.out.lt k rfl).2
                  rw [Fe_hi] at hcl
                  have c1 : W.cell? ⟨b, off + s, none⟩ = some (.int .u32 (R s)) := hcell s hss
                  have hr := ix_rem R n s (bR.out s).1
                  have hb1 := bR.out s
                  have hix := ix_lt R hn0 s
                  have d0 : W.cell? ⟨k, (i + s) * 3, none⟩ = some (.int .u32 1) := (HW.out.cell (p := ⟨k, (i + s) * 3, none⟩) hkl).trans (hcl 0 _ (by omega) rfl)
                  have d1 : W.cell? ⟨k, (i + s) * 3 + 1, none⟩ = some (.int .u32 (ix R n s : Nat)) := (HW.out.cell (p := ⟨k, (i + s) * 3 + 1, none⟩) hkl).trans (hcl 1 _ (by omega) rfl)
                  have d2 : W.cell? ⟨k, (i + s) * 3 + 2, none⟩ = some (.bool (tv false lk K ln N lm Q n (ix R n s))) := (HW.out.cell (p := ⟨k, (i + s) * 3 + 2, none⟩) hkl).trans (hcl 2 _ (by omega) rfl)
                  have hxl : ix R n s ≤ 65536 := by omega
                  have hx7 : ix R n s ≤ 65537 := by omega
                  have hm7 : (ix R n s : Int) < 4294967296 := by omega
                  obtain ⟨x, hx⟩ : ∃ x, x = ix R n s := ⟨_, rfl⟩
                  rw [← hx] at d1 d2 hr hix hxl hx7 hm7
                  have hqn := fun W => neq43 W 1 (x : Int) 1 (x : Int) true (by simp)
                  obtain ⟨o, ho⟩ : ∃ o, o = i + s := ⟨_, rfl⟩
                  have hc1 : (i : Int) + (s : Int) = (o : Int) := by omega
                  rw [← ho] at d0 d1 d2 hsM
                  clear hcl hcell ho hx
                  cases hh : hst K lk x with
                  | false =>
                    have etv : tv false lk K ln N lm Q n x = false := by simp [tv, hh]
                    rw [etv] at d2
                    clear etv
                    go_simp
                    go_wp2_with fail
                    refine (hoisted11 W aK lk ck K x hlk6 hxl bK.out ((RK.out.below HB.out).below HW.out)).mono ?_
                    rintro e W' ⟨rfl, rfl⟩
                    rename World => W
                    rw [hh]
                    go_simp
                    go_wp2_with fail
                    have HW1 : Hid (Below wr.heap.size wr (W.alloc (.cells #[.int .u32 1, .int .u32 x, .bool false] 45))) := bel2 HW ((Below.refl _ _).alloc (Nat.le_refl _) _)
                    have r0 : (W.alloc (.cells #[.int .u32 1, .int .u32 x, .bool false] 45)).cell? ⟨W.heap.size, 0, none⟩ = some (.int .u32 1) := by go_simp
                    have r1 : (W.alloc (.cells #[.int .u32 1, .int .u32 x, .bool false] 45)).cell? ⟨W.heap.size, 1, none⟩ = some (.int .u32 x) := by go_simp
                    have r2 : (W.alloc (.cells #[.int .u32 1, .int .u32 x, .bool false] 45)).cell? ⟨W.heap.size, 2, none⟩ = some (.bool false) := by go_simp
                    have hkV : W.heap.size < (W.alloc (.cells #[.int .u32 1, .int .u32 x, .bool false] 45)).heap.size := by simp
                    clear c1 d0 d1 d2
                    generalize W.alloc (.cells #[.int .u32 1, .int .u32 x, .bool false] 45) = V at *
                    have HWd : Hid (Below wr.heap.size wr V.drew) := bel2 HW1 ⟨rfl, rfl, rfl, Nat.le_refl _, fun _ _ => rfl⟩
                    go_region_with (go_at_call 10; go_loud (refine (ref10 _ x hx7).mono ?_; rintro e V2 ⟨rfl, hb⟩; have HB2 := bel2 (w := wr) (by assumption) hb; have q0 := (hb.cell (p := ⟨W.heap.size, 0, none⟩) hkV).trans r0; have q1 := (hb.cell (p := ⟨W.heap.size, 1, none⟩) hkV).trans r1; have q2 := (hb.cell (p := ⟨W.heap.size, 2, none⟩) hkV).trans r2; clear hb))
                    all_goals
                      clear hqn hr r0 r1 r2 hc1 q0 q1 q2
                      go_simp
                      go_wp2_with fail
                      go_roundw
                      case rel => exact ⟨_, _, _, _, _, _, _, ⟨s + 1, by omega, by go_num, HB2.out⟩, _, _, _, _, _, _, _, _, _, _, _, _, _, _, _, _, _, _, _, _, _, _, _, _, _, _, _, _, _, _, _, _, _, _, _, _, _, _, _, _, _, _, _, _, rfl⟩
                      case measure => simp [intOf]; omega
                  | true =>
                    by_cases hmi : mem Q lm n (nix N ln x) = (x : Int)
                    · have etv : tv false lk K ln N lm Q n x = true := by simp [tv, hh, hmi]
                      rw [etv] at d2
                      clear etv
                      go_simp
                      go_wp2_with fail
                      refine (hoisted11 W aK lk ck K x hlk6 hxl bK.out ((RK.out.below HB.out).below HW.out)).mono ?_
                      rintro e W' ⟨rfl, rfl⟩
                      rename World => W
                      rw [hh]
                      go_simp
                      go_wp2_with fail
                      refine (nameIdx13 W aN ln cn N x HF.out.2.1 hxl bN.out ((RN.out.below HB.out).below HW.out)).mono ?_
                      rintro e W' ⟨rfl, rfl⟩
                      rename World => W
                      go_simp
                      go_wp2_with fail
                      refine (member12 W aQ lm cm Q (nix N ln x) n HF.out.2.2.1 (by have := nix_lt N ln x; omega) hn7 bQ.out ((RQ.out.below HB.out).below HW.out)).mono ?_
                      rintro e W' ⟨rfl, rfl⟩
                      rename World => W
                      rw [hmi]
                      go_simp
                      go_wp2_with fail
                      have HW1 : Hid (Below wr.heap.size wr (W.alloc (.cells #[.int .u32 1, .int .u32 x, .bool true] 45))) := bel2 HW ((Below.refl _ _).alloc (Nat.le_refl _) _)
                      have r0 : (W.alloc (.cells #[.int .u32 1, .int .u32 x, .bool true] 45)).cell? ⟨W.heap.size, 0, none⟩ = some (.int .u32 1) := by go_simp
                      have r1 : (W.alloc (.cells #[.int .u32 1, .int .u32 x, .bool true] 45)).cell? ⟨W.heap.size, 1, none⟩ = some (.int .u32 x) := by go_simp
                      have r2 : (W.alloc (.cells #[.int .u32 1, .int .u32 x, .bool true] 45)).cell? ⟨W.heap.size, 2, none⟩ = some (.bool true) := by go_simp
                      have hkV : W.heap.size < (W.alloc (.cells #[.int .u32 1, .int .u32 x, .bool true] 45)).heap.size := by simp
                      clear c1 d0 d1 d2
                      generalize W.alloc (.cells #[.int .u32 1, .int .u32 x, .bool true] 45) = V at *
                      have HWd : Hid (Below wr.heap.size wr V.drew) := bel2 HW1 ⟨rfl, rfl, rfl, Nat.le_refl _, fun _ _ => rfl⟩
                      go_region_with (go_at_call 10; go_loud (refine (ref10 _ x hx7).mono ?_; rintro e V2 ⟨rfl, hb⟩; have HB2 := bel2 (w := wr) (by assumption) hb; have q0 := (hb.cell (p := ⟨W.heap.size, 0, none⟩) hkV).trans r0; have q1 := (hb.cell (p := ⟨W.heap.size, 1, none⟩) hkV).trans r1; have q2 := (hb.cell (p := ⟨W.heap.size, 2, none⟩) hkV).trans r2; clear hb))
                      all_goals
                        clear hqn hr r0 r1 r2 hc1 q0 q1 q2
                        go_simp
                        go_wp2_with fail
                        go_roundw
                        case rel => exact ⟨_, _, _, _, _, _, _, ⟨s + 1, by omega, by go_num, HB2.out⟩, _, _, _, _, _, _, _, _, _, _, _, _, _, _, _, _, _, _, _, _, _, _, _, _, _, _, _, _, _, _, _, _, _, _, _, _, _, _, _, _, _, _, _, _, rfl⟩
                        case measure => simp [intOf]; omega
                    · have etv : tv false lk K ln N lm Q n x = false := by simp [tv, hh, hmi]
                      rw [etv] at d2
                      clear etv
                      obtain ⟨mv, hmv⟩ : ∃ mv, mv = mem Q lm n (nix N ln x) := ⟨_, rfl⟩
                      have HMV := Lib.hid hmv
                      rw [← hmv] at hmi
                      have hmf : (mv == (x : Int)) = false := by simpa using hmi
                      clear hmv
                      go_simp
                      go_wp2_with fail
                      refine (hoisted11 W aK lk ck K x hlk6 hxl bK.out ((RK.out.below HB.out).below HW.out)).mono ?_
                      rintro e W' ⟨rfl, rfl⟩
                      rename World => W
                      rw [hh]
                      go_simp
                      go_wp2_with fail
                      refine (nameIdx13 W aN ln cn N x HF.out.2.1 hxl bN.out ((RN.out.below HB.out).below HW.out)).mono ?_
                      rintro e W' ⟨rfl, rfl⟩
                      rename World => W
                      go_simp
                      go_wp2_with fail
                      refine (member12 W aQ lm cm Q (nix N ln x) n HF.out.2.2.1 (by have := nix_lt N ln x; omega) hn7 bQ.out ((RQ.out.below HB.out).below HW.out)).mono ?_
                      rintro e W' ⟨rfl, rfl⟩
                      rename World => W
                      rw [← HMV.out]
                      go_simp
                      go_wp2_with fail
                      have HW1 : Hid (Below wr.heap.size wr (W.alloc (.cells #[.int .u32 1, .int .u32 x, .bool false] 45))) := bel2 HW ((Below.refl _ _).alloc (Nat.le_refl _) _)
                      have r0 : (W.alloc (.cells #[.int .u32 1, .int .u32 x, .bool false] 45)).cell? ⟨W.heap.size, 0, none⟩ = some (.int .u32 1) := by go_simp
                      have r1 : (W.alloc (.cells #[.int .u32 1, .int .u32 x, .bool false] 45)).cell? ⟨W.heap.size, 1, none⟩ = some (.int .u32 x) := by go_simp
                      have r2 : (W.alloc (.cells #[.int .u32 1, .int .u32 x, .bool false] 45)).cell? ⟨W.heap.size, 2, none⟩ = some (.bool false) := by go_simp
                      have hkV : W.heap.size < (W.alloc (.cells #[.int .u32 1, .int .u32 x, .bool false] 45)).heap.size := by simp
                      clear c1 d0 d1 d2
                      generalize W.alloc (.cells #[.int .u32 1, .int .u32 x, .bool false] 45) = V at *
                      have HWd : Hid (Below wr.heap.size wr V.drew) := bel2 HW1 ⟨rfl, rfl, rfl, Nat.le_refl _, fun _ _ => rfl⟩
                      go_region_with (go_at_call 10; go_loud (refine (ref10 _ x hx7).mono ?_; rintro e V2 ⟨rfl, hb⟩; have HB2 := bel2 (w := wr) (by assumption) hb; have q0 := (hb.cell (p := ⟨W.heap.size, 0, none⟩) hkV).trans r0; have q1 := (hb.cell (p := ⟨W.heap.size, 1, none⟩) hkV).trans r1; have q2 := (hb.cell (p := ⟨W.heap.size, 2, none⟩) hkV).trans r2; clear hb))
                      all_goals
                        clear hmf hmi hqn hr r0 r1 r2 hc1 q0 q1 q2
                        go_simp
                        go_wp2_with fail
                        go_roundw
                        case rel => exact ⟨_, _, _, _, _, _, _, ⟨s + 1, by omega, by go_num, HB2.out⟩, _, _, _, _, _, _, _, _, _, _, _, _, _, _, _, _, _, _, _, _, _, _, _, _, _, _, _, _, _, _, _, _, _, _, _, _, _, _, _, _, _, _, _, _, rfl⟩
                        case measure => simp [intOf]; omega
                · obtain rfl : s = t := by omega
                  go_simp
                  go_wp2_with fail
                  go_ret
                  exact ⟨rfl, HB.out.trans (HW.out.mono HB.out.size)⟩
end Go.Proofs.Ytnokeaddghfggaa.ds
