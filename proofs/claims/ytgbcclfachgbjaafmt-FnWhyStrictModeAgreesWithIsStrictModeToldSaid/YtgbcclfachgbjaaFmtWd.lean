/-
  Why a scope is strict: whyStrictMode walked.
-/
import Derived.Test.YtgbcclfachgbjaaFmtWc
import Derived.Test.YtgbcclfachgbjaaFmtWf
namespace Go.Proofs.YtgbcclfachgbjaaFmt.ws
open Go.ChangeShapes Go.WideShapes Go.ChangeAt Go.RowKit Go.Deep
open Go.Extern.Stop Go.Stop Go.Extern
set_option linter.unusedVariables false
set_option linter.unusedSimpArgs false
set_option maxRecDepth 100000
set_option maxHeartbeats 4000000
def sT : ByteArray := ⟨#[105, 110, 32, 115, 116, 114, 105, 99, 116, 32, 109, 111, 100, 101]⟩
def eT : ByteArray := ⟨#[105, 110, 32, 97, 110, 32, 69, 67, 77, 65, 83, 99, 114, 105, 112, 116, 32, 109, 111, 100, 117, 108, 101]⟩
/-- The texts that region k of whyStrictMode hands to MsgData, and lays by itself. -/
def callT (ops : Array Oper) : ByteArray := (ops.toList.findSome? fun o => match o.op with | .call c => (match (c.args[2]? : Option Operand) with | some (Operand.const (.string s)) => some s | _ => none) | _ => none).getD ByteArray.empty
def noteT (ops : Array Oper) : ByteArray := (ops.toList.findSome? fun o => match o.op with | .build 48 ps => (match (ps[0]? : Option (Nat × Operand)) with | some (2, Operand.const (.string s)) => some s | _ => none) | _ => none).getD ByteArray.empty
noncomputable def txC (k : Nat) : ByteArray := callT ((Tryf.f9.body.bind (regOps k)).getD #[])
noncomputable def txN (k : Nat) : ByteArray := noteT ((Tryf.f9.body.bind (regOps k)).getD #[])
/-- A scope whose strictness is k. -/
structure Sco (w : World) (sc : Nat) (k : Int) : Prop where
  c6 : w.cell? ⟨sc, 6, none⟩ = some (.int .i32 0)
  c14 : w.cell? ⟨sc, 14, none⟩ = some (.int .u8 k)
theorem Sco.touch {F : Nat → Prop} {w w' : World} {sc : Nat} {k : Int} (s : Sco w sc k) (t : Touch F w w') (hF : ¬ F sc) : Sco w' sc k :=
  ⟨(World.cell?_of_block (a := ⟨sc, 6, none⟩) (t.block sc (block_lt_of_cell s.c6) hF)).trans s.c6, (World.cell?_of_block (a := ⟨sc, 14, none⟩) (t.block sc (block_lt_of_cell s.c6) hF)).trans s.c14⟩
def WhyP (w : World) (p ts : Nat) (x1 x2 x3 x4 : Int) (ws : ByteArray) (V : World → Value → Prop) (e : Ending) (w' : World) : Prop :=
  ∃ v h, e = .returned (.tuple #[.string ws, v]) ∧ V w' v ∧ Ps w' p ts x1 x2 x3 x4 h ∧ Touch (fun b => b = p) w w'
section
variable (w : World) (p ts sc : Nat) (x1 x2 x3 x4 : Int) (h : Bool)
theorem why2 (P : Ps w p ts x1 x2 x3 x4 h) (s : Sco w sc 2) (hs : sc ≠ p) : Calls Tryf.prog 9 #[ptr p 0, ptr sc 0] w (WhyP w p ts x1 x2 x3 x4 sT fun w' v => Nts w' v [(true, txC 4)]) := by
  have HP := Lib.hid P
  have k1 := P.free' 320 (by unfold Free; omega) wp_320
  have k2 := P.free' 321 (by unfold Free; omega) wp_321
  have k14 := s.c14
  clear P s
  obtain ⟨TX, hTX⟩ : ∃ t, txC 4 = t := ⟨_, rfl⟩
  rw [hTX]
  have HTX := Lib.hid hTX
  clear hTX
  go_enter Tryf.func9, Tryf.ntmps9
  go_upto_region 4 with fail
  go_region_with (go_at_call 11; refine (msg11 _ p 67 h 0 _ (HP.out.of ((Touch.refl _ _).drew)).tk).mono ?_; rintro _ W ⟨g, rfl, tk, tt⟩)
  all_goals
    have HQ := Lib.hid ((HP.out.of ((Touch.refl _ _).drew)).tch tt tk)
    have HT := Lib.hid (((Touch.refl (fun b => b = p) w).drew).trans tt.t)
    clear tk tt
    go_simp
    go_wp2_with fail
    go_ret2
    refine ⟨_, _, rfl, ?_, HQ.out.of ((Touch.refl _ _).alloc _), HT.out.alloc _⟩
    have hx := Nts.one W g (txC 4)
    rw [← HTX.out]
    exact hx
theorem why1 (P : Ps w p ts x1 x2 x3 x4 h) (s : Sco w sc 1) (hs : sc ≠ p) : Calls Tryf.prog 9 #[ptr p 0, ptr sc 0] w (WhyP w p ts x1 x2 x3 x4 sT fun w' v => Nts w' v [(true, txC 12)]) := by
  have HP := Lib.hid P
  have k60 := Lib.hid (P.free' 60 (by unfold Free; omega) wp_60)
  have k6 := s.c6
  have k14 := s.c14
  clear P s
  obtain ⟨TX, hTX⟩ : ∃ t, txC 12 = t := ⟨_, rfl⟩
  rw [hTX]
  have HTX := Lib.hid hTX
  clear hTX
  go_enter Tryf.func9, Tryf.ntmps9
  go_upto_region 12 with fail
  go_region_with (first
    | (go_at_call 13; refine (range13 w.drew p k60.out).mono ?_; rintro _ W1 ⟨rfl, t1⟩; have HP1 := Lib.hid (HP.out.of (((Touch.refl (fun _ => False) w).drew).trans t1)); have HT1 := Lib.hid (((Touch.refl (fun _ => False) w).drew).trans t1); clear t1)
    | (go_at_call 11; refine (msg11 _ p 67 h 0 _ HP1.out.tk).mono ?_; rintro _ W ⟨g, rfl, tk, tt⟩))
  all_goals
    have HQ := Lib.hid (HP1.out.tch tt tk)
    have HT := Lib.hid ((HT1.out.mono (fun _ _ h => h.elim) : Touch (fun b => b = p) w W1).trans tt.t)
    clear tk tt
    go_simp
    go_wp2_with fail
    go_ret2
    refine ⟨_, _, rfl, ?_, HQ.out.of ((Touch.refl _ _).alloc _), HT.out.alloc _⟩
    have hx := Nts.one W g (txC 12)
    rw [← HTX.out]
    exact hx
theorem Nts.two (w : World) (b : Nat) (t u : ByteArray) : Nts (w.alloc (.cells #[.nilIface, ptr b 0, .string t, .bool false, .nilIface, .pointer none, .string u, .bool false] 48)) (.slice (some ⟨w.heap.size, 0, none⟩) 2 2) [(true, t), (false, u)] := by
  have hn := heap_alloc_new w (.cells #[.nilIface, ptr b 0, .string t, .bool false, .nilIface, .pointer none, .string u, .bool false] 48)
  refine ⟨_, rfl, fun i x hx => ?_⟩
  match i, hx with
  | 0, hx =>
    obtain rfl : (true, t) = x := by simpa using hx
    exact ⟨⟨b, by rw [cell_of_row _ _ _ _ _ _ hn]; rfl⟩, by rw [cell_of_row _ _ _ _ _ _ hn]; rfl⟩
  | 1, hx =>
    obtain rfl : (false, u) = x := by simpa using hx
    exact ⟨by rw [cell_of_row _ _ _ _ _ _ hn]; rfl, by rw [cell_of_row _ _ _ _ _ _ hn]; rfl⟩
  | i + 2, hx => simp at hx
theorem why5 (P : Ps w p ts x1 x2 x3 x4 h) (s : Sco w sc 5) (hs : sc ≠ p) : Calls Tryf.prog 9 #[ptr p 0, ptr sc 0] w (WhyP w p ts x1 x2 x3 x4 sT fun w' v => Nts w' v [(true, txC 10), (false, txN 10)]) := by
  have HP := Lib.hid P
  have k1 := P.free' 328 (by unfold Free; omega) wp_328
  have k14 := s.c14
  clear P s
  obtain ⟨TX, hTX⟩ : ∃ t, txC 10 = t := ⟨_, rfl⟩
  obtain ⟨TU, hTU⟩ : ∃ t, txN 10 = t := ⟨_, rfl⟩
  rw [hTX, hTU]
  have HTX := Lib.hid hTX
  have HTU := Lib.hid hTU
  clear hTX hTU
  go_enter Tryf.func9, Tryf.ntmps9
  go_upto_region 10 with fail
  go_region_with (go_at_call 11; refine (msg11 _ p 67 h 1 _ (HP.out.of ((Touch.refl _ _).drew)).tk).mono ?_; rintro _ W ⟨g, rfl, tk, tt⟩)
  all_goals
    have HQ := Lib.hid ((HP.out.of ((Touch.refl _ _).drew)).tch tt tk)
    have HT := Lib.hid (((Touch.refl (fun b => b = p) w).drew).trans tt.t)
    clear tk tt
    go_simp
    go_wp2_with fail
    go_ret2
    refine ⟨_, _, rfl, ?_, HQ.out.of ((Touch.refl _ _).alloc _), HT.out.alloc _⟩
    have hx := Nts.two W g (txC 10) (txN 10)
    rw [← HTX.out, ← HTU.out]
    exact hx
/-- What whyESModule says. -/
noncomputable def eL (x1 x2 x3 x4 : Int) : Option ByteArray := if 0 < x1 then some (txE 3) else if 0 < x2 then some (txE 5) else if 0 < x3 then some (txE 7) else if 0 < x4 then some (txE 16) else none
def EsV (l : Option ByteArray) (w : World) (v : Value) : Prop := (∀ t, l = some t → Nts w v [(true, t)]) ∧ (l = none → v = .slice none 0 0)
theorem esm14 (P : Ps w p ts x1 x2 x3 x4 h) : Calls Tryf.prog 14 #[ptr p 0] w fun e w' => ∃ k a n c, e = .returned (.tuple #[.int .u8 k, .slice a n c]) ∧ EsV (eL x1 x2 x3 x4) w' (.slice a n c) ∧ (∃ h', Ps w' p ts x1 x2 x3 x4 h') ∧ Touch (fun b => b = p) w w' := by
  have fin : ∀ (t : ByteArray) e w', eL x1 x2 x3 x4 = some t → EsmP w p ts x1 x2 x3 x4 t e w' → ∃ k a n c, e = .returned (.tuple #[.int .u8 k, .slice a n c]) ∧ EsV (eL x1 x2 x3 x4) w' (.slice a n c) ∧ (∃ h', Ps w' p ts x1 x2 x3 x4 h') ∧ Touch (fun b => b = p) w w' := by
    rintro t e w' he ⟨k, v, rfl, hn, hp, ht⟩
    obtain ⟨g, rfl, hn'⟩ := hn
    refine ⟨k, _, _, _, rfl, ⟨fun u hu => ?_, fun hu => ?_⟩, ⟨_, hp⟩, ht⟩
    · rw [he] at hu
      cases hu
      exact ⟨g, rfl, hn'⟩
    · rw [he] at hu; cases hu
  by_cases h1 : 0 < x1
  · exact (esma w p ts x1 x2 x3 x4 h P h1).mono fun e w' => fin _ e w' (by unfold eL; rw [if_pos h1])
  by_cases h2 : 0 < x2
  · exact (esmb w p ts x1 x2 x3 x4 h P h1 h2).mono fun e w' => fin _ e w' (by unfold eL; rw [if_neg h1, if_pos h2])
  by_cases h3 : 0 < x3
  · exact (esmc w p ts x1 x2 x3 x4 h P h1 h2 h3).mono fun e w' => fin _ e w' (by unfold eL; rw [if_neg h1, if_neg h2, if_pos h3])
  by_cases h4 : 0 < x4
  · exact (esmd w p ts x1 x2 x3 x4 h P h1 h2 h3 h4).mono fun e w' => fin _ e w' (by unfold eL; rw [if_neg h1, if_neg h2, if_neg h3, if_pos h4])
  · refine (esme w p ts x1 x2 x3 x4 h P h1 h2 h3 h4).mono ?_
    rintro e w' ⟨rfl, rfl⟩
    have he : eL x1 x2 x3 x4 = none := by unfold eL; rw [if_neg h1, if_neg h2, if_neg h3, if_neg h4]
    exact ⟨_, _, _, _, rfl, ⟨fun u hu => (by rw [he] at hu; cases hu), fun _ => rfl⟩, ⟨_, P⟩, Touch.refl _ _⟩
theorem why3 (P : Ps w p ts x1 x2 x3 x4 h) (s : Sco w sc 3) (hs : sc ≠ p) : Calls Tryf.prog 9 #[ptr p 0, ptr sc 0] w (WhyP w p ts x1 x2 x3 x4 eT fun w' v => EsV (eL x1 x2 x3 x4) w' v) := by
  have HP := Lib.hid P
  have k14 := s.c14
  clear P s
  go_enter Tryf.func9, Tryf.ntmps9
  go_wp2_with (go_at_call 14; refine (esm14 _ p ts x1 x2 x3 x4 h HP.out).mono ?_; rintro _ W ⟨k, a, n, c, rfl, hv, ⟨h', hp⟩, ht⟩; have HE := Lib.hid (And.intro hv (And.intro hp ht)); clear hv hp ht)
  go_ret2
  exact ⟨_, _, rfl, HE.out.1, HE.out.2.1, HE.out.2.2⟩
theorem whyN (k : Int) (P : Ps w p ts x1 x2 x3 x4 h) (s : Sco w sc k) (hs : sc ≠ p) (h1 : k ≠ 1) (h2 : k ≠ 2) (h3 : k ≠ 3) (h4 : k ≠ 4) (h5 : k ≠ 5) : Calls Tryf.prog 9 #[ptr p 0, ptr sc 0] w (WhyP w p ts x1 x2 x3 x4 sT fun w' v => v = .slice none 0 0) := by
  have HP := Lib.hid P
  have k14 := s.c14
  have e1 : (k == 1) = false := by simp [h1]
  have e2 : (k == 2) = false := by simp [h2]
  have e3 : (k == 3) = false := by simp [h3]
  have e4 : (k == 4) = false := by simp [h4]
  have e5 : (k == 5) = false := by simp [h5]
  clear P s h1 h2 h3 h4 h5
  go_enter Tryf.func9, Tryf.ntmps9
  go_wp2_with fail
  go_ret2
  exact ⟨_, _, rfl, rfl, HP.out, Touch.refl _ _⟩
end
end Go.Proofs.YtgbcclfachgbjaaFmt.ws
