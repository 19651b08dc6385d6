/-
  Why a scope is strict: the range of an empty text's string, why a file is a module.
-/
import Derived.Test.YtgbcclfachgbjaaFmtWb
namespace Go.Proofs.YtgbcclfachgbjaaFmt.ws
open Go.ChangeShapes Go.WideShapes Go.ChangeAt Go.RowKit Go.Deep
set_option linter.unusedVariables false
set_option linter.unusedSimpArgs false
set_option maxRecDepth 100000
set_option maxHeartbeats 4000000
section
variable {w w' : World} {p ts : Nat} {x1 x2 x3 x4 : Int} {h h' : Bool}
theorem Ps.lt (P : Ps w p ts x1 x2 x3 x4 h) : p < w.heap.size ∧ ts < w.heap.size := ⟨P.tk.lt, lt_of_block P.recd⟩
theorem Ps.tch (P : Ps w p ts x1 x2 x3 x4 h) (t : Tch p 67 w w') (k : Tk w' p 67 h') : Ps w' p ts x1 x2 x3 x4 h' := by
  obtain ⟨a1, a2, a3, a4, ⟨b1, b1'⟩, ⟨b2, b2'⟩, ⟨b3, b3'⟩, ⟨b4, b4'⟩, a5, a6⟩ := P
  obtain ⟨v, a4⟩ := a4
  have c := fun q h1 h2 => t.c q h1 h2
  exact ⟨k, fun q hq => (c q (by unfold Free at hq; omega) (by unfold Free at hq; omega)).trans (a2 q hq), (c _ (by omega) (by omega)).trans a3, ⟨v, (c _ (by omega) (by omega)).trans a4⟩, ⟨(c _ (by omega) (by omega)).trans b1, (c _ (by omega) (by omega)).trans b1'⟩, ⟨(c _ (by omega) (by omega)).trans b2, (c _ (by omega) (by omega)).trans b2'⟩,
    ⟨(c _ (by omega) (by omega)).trans b3, (c _ (by omega) (by omega)).trans b3'⟩, ⟨(c _ (by omega) (by omega)).trans b4, (c _ (by omega) (by omega)).trans b4'⟩, (t.t.block ts (lt_of_block a5) a6).trans a5, a6⟩
theorem Ps.of (P : Ps w p ts x1 x2 x3 x4 h) (t : Touch (fun _ => False) w w') : Ps w' p ts x1 x2 x3 x4 h :=
  P.tch (Tch.of t P.tk.lt) (P.tk.of_block (t.block p P.tk.lt id))
theorem Ps.free' (P : Ps w p ts x1 x2 x3 x4 h) (q : Nat) (hq : Free q) {v : Value} (hv : wp[q]? = some v) : w.cell? ⟨p, q, none⟩ = some v := by
  rw [P.free q hq]; unfold G0; rw [hv]; rfl
end
theorem wp_320 : wp[320]? = some (.int .i32 0) := by kernel_rfl
theorem wp_321 : wp[321]? = some (.int .i32 0) := by kernel_rfl
theorem wp_328 : wp[328]? = some (.int .i32 0) := by kernel_rfl
/-- RangeOfString over an empty text. -/
theorem range13 (w : World) (p : Nat) (c60 : w.cell? ⟨p, 60, none⟩ = some str0) : Calls Tryf.prog 13 #[ptr p 57, .agg #[.int .i32 0]] w fun e w' => e = .returned (.agg #[.int .i32 0, .int .i32 0]) ∧ Touch (fun _ => False) w w' := by
  have hl : p < w.heap.size := block_lt_of_cell c60
  have hl1 : p < w.heap.size + 1 := by omega
  go_enter Tryf.func13, Tryf.ntmps13
  go_upto_region 1 with fail
  go_region
  all_goals
    go_wp2_with fail
    refine bodyPost_ret (v := .agg #[.int .i32 0, .int .i32 0]) (by simp [results, Tryf.results13, go_sem]) rfl ⟨rfl, (((Touch.refl _ _).alloc _).alloc _).drew⟩
/-- Notes: each with or without a place, each with its text. -/
def Nts (w : World) (v : Value) (l : List (Bool × ByteArray)) : Prop := ∃ g, v = .slice (some ⟨g, 0, none⟩) l.length l.length ∧
  ∀ i x, l[i]? = some x → (if x.1 = true then ∃ b, w.cell? ⟨g, i * 4 + 1, none⟩ = some (ptr b 0) else w.cell? ⟨g, i * 4 + 1, none⟩ = some (.pointer none)) ∧ w.cell? ⟨g, i * 4 + 2, none⟩ = some (.string x.2)
theorem Nts.touch {F : Nat → Prop} {w w' : World} {v : Value} {l : List (Bool × ByteArray)} (h : Nts w v l) (t : Touch F w w') (hF : ∀ g n, v = .slice (some ⟨g, 0, none⟩) n n → ¬ F g) : Nts w' v l := by
  obtain ⟨g, rfl, h⟩ := h
  refine ⟨g, rfl, fun i x hx => ?_⟩
  obtain ⟨h1, h2⟩ := h i x hx
  have hb := t.block g (block_lt_of_cell h2) (hF g _ rfl)
  have e1 : w'.cell? ⟨g, i * 4 + 1, none⟩ = w.cell? ⟨g, i * 4 + 1, none⟩ := World.cell?_of_block (a := ⟨g, i * 4 + 1, none⟩) hb
  have e2 : w'.cell? ⟨g, i * 4 + 2, none⟩ = w.cell? ⟨g, i * 4 + 2, none⟩ := World.cell?_of_block (a := ⟨g, i * 4 + 2, none⟩) hb
  rw [e1, e2]
  exact ⟨h1, h2⟩
theorem Nts.one (w : World) (b : Nat) (t : ByteArray) : Nts (w.alloc (.cells #[.nilIface, ptr b 0, .string t, .bool false] 48)) (.slice (some ⟨w.heap.size, 0, none⟩) 1 1) [(true, t)] := by
  have hn := heap_alloc_new w (.cells #[.nilIface, ptr b 0, .string t, .bool false] 48)
  refine ⟨_, rfl, fun i x hx => ?_⟩
  cases i with
  | zero =>
    obtain rfl : (true, t) = x := by simpa using hx
    exact ⟨⟨b, by rw [cell_of_row _ _ _ _ _ _ hn]; rfl⟩, by rw [cell_of_row _ _ _ _ _ _ hn]; rfl⟩
  | succ i => simp at hx
/-- The operations of region k of a body. -/
def regOps (k : Nat) : Code → Option (Array Oper)
  | .region id ops _ => if id == k then some ops else none
  | .seq a b => match regOps k a with
    | some x => some x
    | none => regOps k b
  | .cond _ a b => match regOps k a with
    | some x => some x
    | none => regOps k b
  | .block _ c => regOps k c
  | .loop c => regOps k c
  | .scope c => regOps k c
  | _ => none
/-- A text of the program: the second operand of the first string addition in region k of function f. -/
def addIn (ops : Array Oper) : ByteArray := (ops.toList.findSome? fun o => match o.op with | .binOp .add _ _ (.const (.string s)) _ => some s | _ => none).getD ByteArray.empty
def asgIn (ops : Array Oper) : ByteArray := (ops.toList.findSome? fun o => match o.op with | .assign (.const (.string s)) => some s | _ => none).getD ByteArray.empty
noncomputable def txE (k : Nat) : ByteArray := asgIn ((Tryf.f14.body.bind (regOps 1)).getD #[]) ++ addIn ((Tryf.f14.body.bind (regOps k)).getD #[])
def EsmP (w : World) (p ts : Nat) (x1 x2 x3 x4 : Int) (t : ByteArray) (e : Ending) (w' : World) : Prop :=
  ∃ k v, e = .returned (.tuple #[.int .u8 k, v]) ∧ Nts w' v [(true, t)] ∧ Ps w' p ts x1 x2 x3 x4 true ∧ Touch (fun b => b = p) w w'
theorem esma (w : World) (p ts : Nat) (x1 x2 x3 x4 : Int) (h : Bool) (P : Ps w p ts x1 x2 x3 x4 h) (h1 : 0 < x1) : Calls Tryf.prog 14 #[ptr p 0] w (EsmP w p ts x1 x2 x3 x4 (txE 3)) := by
  have HP := Lib.hid P
  have c1 := P.r1.1
  have c2 := P.r1.2
  have d1 : decide (0 < x1) = true := by simp [h1]
  clear P
  obtain ⟨TX, hTX⟩ : ∃ t, txE 3 = t := ⟨_, rfl⟩
  rw [hTX]
  have HTX := Lib.hid hTX
  clear hTX
  go_enter Tryf.func14, Tryf.ntmps14
  go_upto_region 3 with fail
  go_region_with (go_at_call 11; refine (msg11 _ p 67 h x1 _ (HP.out.of ((Touch.refl _ _).drew)).tk).mono ?_; rintro _ W ⟨g, rfl, tk, tt⟩)
  all_goals
    have HQ := Lib.hid ((HP.out.of ((Touch.refl _ _).drew)).tch tt tk)
    have HT := Lib.hid (((Touch.refl (fun b => b = p) w).drew).trans tt.t)
    clear tk tt
    go_simp
    go_wp2_with fail
    go_ret2
    refine ⟨_, _, rfl, ?_, HQ.out.of ((Touch.refl _ _).alloc _), HT.out.alloc _⟩
    have hx := Nts.one W g (txE 3)
    rw [← HTX.out]
    exact hx
theorem esmb (w : World) (p ts : Nat) (x1 x2 x3 x4 : Int) (h : Bool) (P : Ps w p ts x1 x2 x3 x4 h) (h1 : ¬ 0 < x1) (h2 : 0 < x2) : Calls Tryf.prog 14 #[ptr p 0] w (EsmP w p ts x1 x2 x3 x4 (txE 5)) := by
  have HP := Lib.hid P
  have c1 := P.r1.1
  have c2 := P.r1.2
  have c3 := P.r2.1
  have c4 := P.r2.2
  have d1 : decide (0 < x1) = false := by simp; omega
  have d2 : decide (0 < x2) = true := by simp [h2]
  clear P
  obtain ⟨TX, hTX⟩ : ∃ t, txE 5 = t := ⟨_, rfl⟩
  rw [hTX]
  have HTX := Lib.hid hTX
  clear hTX
  go_enter Tryf.func14, Tryf.ntmps14
  go_upto_region 5 with fail
  go_region_with (go_at_call 11; refine (msg11 _ p 67 h x2 _ (HP.out.of ((Touch.refl _ _).drew)).tk).mono ?_; rintro _ W ⟨g, rfl, tk, tt⟩)
  all_goals
    have HQ := Lib.hid ((HP.out.of ((Touch.refl _ _).drew)).tch tt tk)
    have HT := Lib.hid (((Touch.refl (fun b => b = p) w).drew).trans tt.t)
    clear tk tt
    go_simp
    go_wp2_with fail
    go_ret2
    refine ⟨_, _, rfl, ?_, HQ.out.of ((Touch.refl _ _).alloc _), HT.out.alloc _⟩
    have hx := Nts.one W g (txE 5)
    rw [← HTX.out]
    exact hx
theorem esmc (w : World) (p ts : Nat) (x1 x2 x3 x4 : Int) (h : Bool) (P : Ps w p ts x1 x2 x3 x4 h) (h1 : ¬ 0 < x1) (h2 : ¬ 0 < x2) (h3 : 0 < x3) : Calls Tryf.prog 14 #[ptr p 0] w (EsmP w p ts x1 x2 x3 x4 (txE 7)) := by
  have HP := Lib.hid P
  have c1 := P.r1.1
  have c2 := P.r1.2
  have c3 := P.r2.1
  have c4 := P.r2.2
  have c5 := P.r3.1
  have c6 := P.r3.2
  have d1 : decide (0 < x1) = false := by simp; omega
  have d2 : decide (0 < x2) = false := by simp; omega
  have d3 : decide (0 < x3) = true := by simp [h3]
  clear P
  obtain ⟨TX, hTX⟩ : ∃ t, txE 7 = t := ⟨_, rfl⟩
  rw [hTX]
  have HTX := Lib.hid hTX
  clear hTX
  go_enter Tryf.func14, Tryf.ntmps14
  go_upto_region 7 with fail
  go_region_with (go_at_call 11; refine (msg11 _ p 67 h x3 _ (HP.out.of ((Touch.refl _ _).drew)).tk).mono ?_; rintro _ W ⟨g, rfl, tk, tt⟩)
  all_goals
    have HQ := Lib.hid ((HP.out.of ((Touch.refl _ _).drew)).tch tt tk)
    have HT := Lib.hid (((Touch.refl (fun b => b = p) w).drew).trans tt.t)
    clear tk tt
    go_simp
    go_wp2_with fail
    go_ret2
    refine ⟨_, _, rfl, ?_, HQ.out.of ((Touch.refl _ _).alloc _), HT.out.alloc _⟩
    have hx := Nts.one W g (txE 7)
    rw [← HTX.out]
    exact hx
theorem wp_22 : wp[22]? = some (.int .u8 0) := by kernel_rfl
theorem esmd (w : World) (p ts : Nat) (x1 x2 x3 x4 : Int) (h : Bool) (P : Ps w p ts x1 x2 x3 x4 h) (h1 : ¬ 0 < x1) (h2 : ¬ 0 < x2) (h3 : ¬ 0 < x3) (h4 : 0 < x4) : Calls Tryf.prog 14 #[ptr p 0] w (EsmP w p ts x1 x2 x3 x4 (txE 16)) := by
  have HP := Lib.hid P
  have c1 := P.r1.1
  have c2 := P.r1.2
  have c3 := P.r2.1
  have c4 := P.r2.2
  have c5 := P.r3.1
  have c6 := P.r3.2
  have c7 := P.r4.1
  have c8 := P.r4.2
  have cm := P.free' 22 (by unfold Free; omega) wp_22
  have d1 : decide (0 < x1) = false := by simp; omega
  have d2 : decide (0 < x2) = false := by simp; omega
  have d3 : decide (0 < x3) = false := by simp; omega
  have d4 : decide (0 < x4) = true := by simp [h4]
  clear P
  obtain ⟨TX, hTX⟩ : ∃ t, txE 16 = t := ⟨_, rfl⟩
  rw [hTX]
  have HTX := Lib.hid hTX
  clear hTX
  go_enter Tryf.func14, Tryf.ntmps14
  go_upto_region 16 with fail
  go_region_with (go_at_call 11; refine (msg11 _ p 67 h x4 _ (HP.out.of ((Touch.refl _ _).drew)).tk).mono ?_; rintro _ W ⟨g, rfl, tk, tt⟩)
  all_goals
    have HQ := Lib.hid ((HP.out.of ((Touch.refl _ _).drew)).tch tt tk)
    have HT := Lib.hid (((Touch.refl (fun b => b = p) w).drew).trans tt.t)
    clear tk tt
    go_simp
    go_wp2_with fail
    go_ret2
    refine ⟨_, _, rfl, ?_, HQ.out.of ((Touch.refl _ _).alloc _), HT.out.alloc _⟩
    have hx := Nts.one W g (txE 16)
    rw [← HTX.out]
    exact hx
theorem esme (w : World) (p ts : Nat) (x1 x2 x3 x4 : Int) (h : Bool) (P : Ps w p ts x1 x2 x3 x4 h) (h1 : ¬ 0 < x1) (h2 : ¬ 0 < x2) (h3 : ¬ 0 < x3) (h4 : ¬ 0 < x4) : Calls Tryf.prog 14 #[ptr p 0] w fun e w' => e = .returned (.tuple #[.int .u8 0, .slice none 0 0]) ∧ w = w' := by
  have c1 := P.r1.1
  have c2 := P.r1.2
  have c3 := P.r2.1
  have c4 := P.r2.2
  have c5 := P.r3.1
  have c6 := P.r3.2
  have c7 := P.r4.1
  have c8 := P.r4.2
  have cm := P.free' 22 (by unfold Free; omega) wp_22
  have d1 : decide (0 < x1) = false := by simp; omega
  have d2 : decide (0 < x2) = false := by simp; omega
  have d3 : decide (0 < x3) = false := by simp; omega
  have d4 : decide (0 < x4) = false := by simp; omega
  clear P
  go_enter Tryf.func14, Tryf.ntmps14
  go_wp2_with fail
  go_ret2
  exact ⟨rfl, rfl⟩
end Go.Proofs.YtgbcclfachgbjaaFmt.ws
