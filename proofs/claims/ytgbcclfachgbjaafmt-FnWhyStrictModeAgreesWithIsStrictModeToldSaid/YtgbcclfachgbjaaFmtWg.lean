/-
  Why a scope is strict: whyStrictMode in one contract, and the harness's small functions.
-/
import Derived.Test.YtgbcclfachgbjaaFmtWe
namespace Go.Proofs.YtgbcclfachgbjaaFmt.ws
open Go.ChangeShapes Go.WideShapes Go.ChangeAt Go.RowKit Go.Deep
open Go.Extern.Stop Go.Stop Go.Extern
set_option linter.unusedVariables false
set_option linter.unusedSimpArgs false
set_option maxRecDepth 100000
set_option maxHeartbeats 4000000
/-- The notes that a scope of strictness k is given (but for the one whose text fmt prints). -/
noncomputable def FL (k x1 x2 x3 x4 : Int) : Option (List (Bool × ByteArray)) :=
  if k = 1 then some [(true, txC 12)] else if k = 2 then some [(true, txC 4)] else if k = 5 then some [(true, txC 10), (false, txN 10)]
  else if k = 3 then (eL x1 x2 x3 x4).map (fun t => [(true, t)]) else none
def Shape (k x1 x2 x3 x4 : Int) (fl : Option (List (Bool × ByteArray))) : Prop := if k = 4 then ∃ t, fl = some [(true, t)] else fl = FL k x1 x2 x3 x4
def WS (k : Int) : ByteArray := if k = 3 then eT else sT
def NV (fl : Option (List (Bool × ByteArray))) (w : World) (v : Value) : Prop := match fl with
  | none => v = .slice none 0 0
  | some l => Nts w v l
def NP (k x1 x2 x3 x4 : Int) (w : World) (v : Value) : Prop := ∃ fl, Shape k x1 x2 x3 x4 fl ∧ NV fl w v
theorem WhyP.imp {w : World} {p ts : Nat} {x1 x2 x3 x4 : Int} {ws : ByteArray} {V V' : World → Value → Prop} {e : Ending} {w' : World} (h : WhyP w p ts x1 x2 x3 x4 ws V e w') (hv : ∀ w v, V w v → V' w v) : WhyP w p ts x1 x2 x3 x4 ws V' e w' := by
  obtain ⟨v, h', e1, e2, e3, e4⟩ := h
  exact ⟨v, h', e1, hv _ _ e2, e3, e4⟩
theorem why9 (F : Interp) (w : World) (hF : F.answers w.tape) (p ts sc : Nat) (k x1 x2 x3 x4 : Int) (h : Bool) (P : Ps w p ts x1 x2 x3 x4 h) (s : Sco w sc k) (hs : sc ≠ p) : Calls Tryf.prog 9 #[ptr p 0, ptr sc 0] w (WhyP w p ts x1 x2 x3 x4 (WS k) (NP k x1 x2 x3 x4)) := by
  have hS : ∀ {k : Int}, k ≠ 4 → Shape k x1 x2 x3 x4 (FL k x1 x2 x3 x4) := fun hk => by unfold Shape; rw [if_neg hk]
  by_cases k1 : k = 1
  · subst k1
    refine (why1 w p ts sc x1 x2 x3 x4 h P s hs).mono fun e w' q => WhyP.imp q fun w v hv => ⟨_, hS (by decide), ?_⟩
    exact hv
  by_cases k2 : k = 2
  · subst k2
    refine (why2 w p ts sc x1 x2 x3 x4 h P s hs).mono fun e w' q => WhyP.imp q fun w v hv => ⟨_, hS (by decide), ?_⟩
    exact hv
  by_cases k3 : k = 3
  · subst k3
    refine (why3 w p ts sc x1 x2 x3 x4 h P s hs).mono fun e w' q => WhyP.imp q fun w v hv => ⟨_, hS (by decide), ?_⟩
    have e : FL 3 x1 x2 x3 x4 = (eL x1 x2 x3 x4).map (fun t => [(true, t)]) := by unfold FL; rw [if_neg (by decide), if_neg (by decide), if_neg (by decide), if_pos rfl]
    rw [e]
    unfold EsV at hv
    cases he : eL x1 x2 x3 x4 with
    | none => exact hv.2 he
    | some t => exact hv.1 t he
  by_cases k4 : k = 4
  · subst k4
    refine (why4 F w hF p ts sc x1 x2 x3 x4 h P s hs).mono fun e w' q => WhyP.imp q fun w v hv => ?_
    obtain ⟨t, ht⟩ := hv
    refine ⟨some [(true, t)], ?_, ht⟩
    unfold Shape
    rw [if_pos rfl]
    exact ⟨t, rfl⟩
  by_cases k5 : k = 5
  · subst k5
    refine (why5 w p ts sc x1 x2 x3 x4 h P s hs).mono fun e w' q => WhyP.imp q fun w v hv => ⟨_, hS (by decide), ?_⟩
    exact hv
  · have e : WS k = sT := by unfold WS; rw [if_neg k3]
    rw [e]
    refine (whyN w p ts sc x1 x2 x3 x4 h k P s hs k1 k2 k3 k4 k5).mono fun e w' q => WhyP.imp q fun w v hv => ⟨_, hS k4, ?_⟩
    unfold FL
    rw [if_neg k1, if_neg k2, if_neg k5, if_neg k3]
    exact hv
theorem why5f (F : Interp) (w : World) (hF : F.answers w.tape) (p ts sc : Nat) (k x1 x2 x3 x4 : Int) (h : Bool) (P : Ps w p ts x1 x2 x3 x4 h) (s : Sco w sc k) (hs : sc ≠ p) : Calls Tryf.prog 5 #[ptr p 0, ptr sc 0] w (WhyP w p ts x1 x2 x3 x4 (WS k) (NP k x1 x2 x3 x4)) := by
  have hc := why9 F w hF p ts sc k x1 x2 x3 x4 h P s hs
  have HC := Lib.hid hc
  clear hc hF P s
  obtain ⟨W0, hW0⟩ : ∃ t, WS k = t := ⟨_, rfl⟩
  rw [hW0] at HC ⊢
  clear hW0
  go_enter Tryf.func5, Tryf.ntmps5
  go_wp2_with (go_at_call 9; refine HC.out.mono ?_; rintro _ W ⟨v, h', rfl, hv, hp, ht⟩; have HE := Lib.hid (And.intro hv (And.intro hp ht)); clear hv hp ht)
  go_ret2
  exact ⟨_, _, rfl, HE.out.1, HE.out.2.1, HE.out.2.2⟩
theorem set6 (w : World) (p sc : Nat) (o : Value) (c : w.cell? ⟨p, 104, none⟩ = some o) (z : w.frozen? ⟨p, 104, none⟩ = false) : Calls Tryf.prog 6 #[ptr p 0, ptr sc 0] w fun e w' => e = .returned (.tuple #[]) ∧ w' = w.setCell ⟨p, 104, none⟩ (ptr sc 0) := by
  go_enter Tryf.func6, Tryf.ntmps6
  go_wp2_with fail
  go_end0
  exact ⟨rfl, rfl⟩
theorem is10 (w : World) (p sc : Nat) (k : Int) (c : w.cell? ⟨p, 104, none⟩ = some (ptr sc 0)) (d : w.cell? ⟨sc, 14, none⟩ = some (.int .u8 k)) : Calls Tryf.prog 10 #[ptr p 0] w fun e w' => e = .returned (.bool (k != 0)) ∧ w' = w := by
  go_enter Tryf.func10, Tryf.ntmps10
  go_wp2_with fail
  go_ret
  exact ⟨rfl, rfl⟩
theorem is7 (w : World) (p sc : Nat) (k : Int) (c : w.cell? ⟨p, 104, none⟩ = some (ptr sc 0)) (d : w.cell? ⟨sc, 14, none⟩ = some (.int .u8 k)) : Calls Tryf.prog 7 #[ptr p 0] w fun e w' => e = .returned (.bool (k != 0)) ∧ w' = w := by
  have HC := Lib.hid (is10 w p sc k c d)
  clear c d
  go_enter Tryf.func7, Tryf.ntmps7
  go_wp2_with (go_at_call 10; refine HC.out.mono ?_; rintro _ _ ⟨rfl, rfl⟩)
  go_ret
  exact ⟨rfl, rfl⟩
end Go.Proofs.YtgbcclfachgbjaaFmt.ws
