/-
  Options: zzBuild: its region.
-/
import Derived.Test.YtbebfpmnekbldaaOl
import Derived.Laws.CopyOwn

namespace Go.Proofs.Ytbebfpmnekbldaa.op
open Go.ChangeShapes Go.WideShapes Go.ChangeAt Go.RowKit Go.Deep
set_option linter.unusedVariables false
set_option linter.unusedSimpArgs false
set_option maxRecDepth 100000
set_option maxHeartbeats 1000000
noncomputable def cz : Array Value := (Try.prog.built 97 []).getD #[]
theorem cz_info : (Try.prog.info? 97).map (fun i => (i.zero, i.size)) = some (some (.agg cz), 102) := by kernel_rfl
theorem alloc97_run (ρ : Operand → Value) (o : Oper) (ho : o.op = .alloc 97) (w : World) : (execOp ρ o).run Try.prog w = .ok (.value (.pointer (some ⟨w.heap.size, 0, none⟩))) (w.alloc (.cells cz 97)) := by
  have hz := (zero_of_info cz_info).1
  unfold execOp
  simp only [ho, Sem.run_bind, Instr.alloc, newVar, newRow, run_newObj_alloc, Sem.run_pure, Result.andThen_ok, hz, Value.cells]
noncomputable def ops8 : Array Oper := (Try.f8.body.bind (regOps 1)).getD #[]
theorem size8 : ops8.size = 47 := by kernel_rfl
/-- What is found on the way: the cloned labels, the config's block. -/
structure Th where
  la : Option Addr
  lc : Nat
  g : Nat
noncomputable def VC (B : Nat) (n : Int) (env : ByteArray) (f g h : Int) (mn rn : Bool) (la : Option Addr) (ln lc : Nat) (i : Nat) : Value := [.pointer (some ⟨B, 0, none⟩), .int .u16 n, .bool (bitB n 0), .pointer (some ⟨B, 0, none⟩), .int .u16 n, .bool (bitB n 1), .pointer (some ⟨B, 0, none⟩), .int .u16 n, .bool (bitB n 2), .pointer (some ⟨B, 0, none⟩), .int .u16 n, .bool (bitB n 3), .pointer (some ⟨B, 0, none⟩), .int .u16 n, .bool (bitB n 4), .pointer (some ⟨B, 0, none⟩), .int .u16 n, .bool (bitB n 5), .pointer (some ⟨B, 0, none⟩), .int .u16 n, .bool (bitB n 6), .pointer (some ⟨B, 0, none⟩), .int .u16 n, .bool (bitB n 7), .pointer (some ⟨B, 0, none⟩), .int .u16 n, .bool (bitB n 8), .pointer (some ⟨B, 0, none⟩), .int .u16 n, .bool (bitB n 9), .pointer (some ⟨B, 0, none⟩), .int .u16 n, .bool (bitB n 10), .pointer (some ⟨B, 1, none⟩), .string env, .pointer (some ⟨B, 2, none⟩), .int .u64 f, .pointer (some ⟨B, 3, none⟩), .int .u64 g, .pointer (some ⟨B, 4, none⟩), .int .u64 h, .pointer (some ⟨B, 7, none⟩), .slice la ln lc, undef, undef, undef, undef].getD i undef
noncomputable def V8 (B : Nat) (t : Th) (n : Int) (env : ByteArray) (f g h : Int) (mn rn : Bool) (la : Option Addr) (ln lc : Nat) (i : Nat) : Value := if i = 43 then .slice t.la ln t.lc else if i = 44 then .agg (cv (bitB n 0) (bitB n 1) (bitB n 2) (bitB n 3) (bitB n 4) (bitB n 5) (bitB n 6) (bitB n 7) (bitB n 8) (bitB n 9) (bitB n 10) env f g h t.la ln t.lc) else if i = 45 then .pointer (some ⟨t.g, 0, none⟩) else VC B n env f g h mn rn la ln lc i
theorem V8_la (B : Nat) (t : Th) (la' : Option Addr) (lc' : Nat) (n : Int) (env : ByteArray) (f g h : Int) (mn rn : Bool) (la : Option Addr) (ln lc : Nat) (j : Nat) (h1 : j ≠ 43) (h2 : j ≠ 44) : V8 B ⟨la', lc', t.g⟩ n env f g h mn rn la ln lc j = V8 B t n env f g h mn rn la ln lc j := by
  unfold V8
  rw [if_neg h1, if_neg h2, if_neg h1, if_neg h2]
theorem V8_g (B : Nat) (t : Th) (g' : Nat) (n : Int) (env : ByteArray) (f g h : Int) (mn rn : Bool) (la : Option Addr) (ln lc : Nat) (j : Nat) (h1 : j ≠ 45) : V8 B ⟨t.la, t.lc, g'⟩ n env f g h mn rn la ln lc j = V8 B t n env f g h mn rn la ln lc j := by
  unfold V8
  rw [if_neg h1, if_neg h1]
/-- The labels have been cloned. -/
def Cl17 (w w' : World) (la : Option Addr) (ln : Nat) (V : Nat → ByteArray) : Prop := Below w.heap.size w w' ∧ Row w' la ln (fun i => .string (V i)) ∧ ∀ x, la = some x → w.heap.size ≤ x.block ∧ x.block < w'.heap.size
theorem clone17r (w : World) (la : Option Addr) (ln lc : Nat) (V : Nat → ByteArray) (hl : ln ≤ 1048576) (hr : Row w la ln (fun i => .string (V i))) (hnil : la = none → ln = 0 ∧ lc = 0) :
    Calls Try.prog 17 #[.slice la ln lc] w fun e w' => ∃ la' lc', e = .returned (.slice la' ln lc') ∧ Cl17 w w' la' ln V := by
  cases la with
  | none =>
    obtain ⟨rfl, rfl⟩ := hnil rfl
    exact (clone17_nil w).mono fun e w' ⟨he, hw⟩ => ⟨none, 0, he, by subst hw; exact ⟨Below.refl _ _, fun h => by omega, fun x h => by cases h⟩⟩
  | some x =>
    have hc : Cells w x ln fun i => .string (V i) := by
      by_cases h0 : ln = 0
      · subst h0; exact ⟨fun h => by omega, fun i h => by omega⟩
      · obtain ⟨b, off, e, hc⟩ := hr (by omega)
        cases e
        exact ⟨fun _ => rfl, hc⟩
    refine (clone17 w x ln lc V hl hc).mono fun e w' ⟨he, hw⟩ => ⟨_, ln, he, ?_⟩
    subst hw
    refine ⟨(Below.refl _ _).alloc (Nat.le_refl _) _, fun h0 => ⟨_, 0, rfl, fun i hi => ?_⟩, fun y hy => ?_⟩
    · have := (Cells.made w ln (fun i => Value.string (V i)) 9).2 i hi
      simpa using this
    · cases hy
      exact ⟨Nat.le_refl _, by simp⟩
/-- What is known of the world while the operations come up. -/
def W8 (w1 : World) (B : Nat) (n : Int) (env : ByteArray) (f g h : Int) (mn rn : Bool) (la : Option Addr) (ln lc : Nat) (V : Nat → ByteArray) (t : Th) (L : Array Bool) (w' : World) : Prop :=
  w'.heap[B]? = some (.cells #[.int .u16 n, .string env, .int .u64 f, .int .u64 g, .int .u64 h, .bool mn, .bool rn, .slice la ln lc] 65 (0, 0)) ∧ Below w1.heap.size w1 w' ∧ (L.getD 43 false = true → Row w' t.la ln (fun i => .string (V i)) ∧ ∀ x, t.la = some x → w1.heap.size ≤ x.block ∧ x.block < w'.heap.size) ∧ (L.getD 44 false = true → L.getD 43 false = true) ∧
  (L.getD 45 false = true → w1.heap.size ≤ t.g ∧ w'.heap[t.g]? = some (.cells (if L.getD 46 false = true then cv (bitB n 0) (bitB n 1) (bitB n 2) (bitB n 3) (bitB n 4) (bitB n 5) (bitB n 6) (bitB n 7) (bitB n 8) (bitB n 9) (bitB n 10) env f g h t.la ln t.lc else cz) 97 (0, 0)) ∧ (L.getD 43 false = true → ∀ x, t.la = some x → x.block ≠ t.g)) ∧
  (L.getD 46 false = true → L.getD 45 false = true ∧ L.getD 43 false = true)
section
variable {w1 w' : World} {B : Nat} {n : Int} {env : ByteArray} {f g h : Int} {mn rn : Bool} {la : Option Addr} {ln lc : Nat} {V : Nat → ByteArray} {t : Th} {L : Array Bool}
theorem W8.next {i : Nat} (hh : W8 w1 B n env f g h mn rn la ln lc V t L w') (h1 : i ≠ 43) (h2 : i ≠ 44) (h3 : i ≠ 45) (h4 : i ≠ 46) : W8 w1 B n env f g h mn rn la ln lc V t (L.setIfInBounds i true) w' := by
  unfold W8
  rw [getD_set_other h1, getD_set_other h2, getD_set_other h3, getD_set_other h4]
  exact hh
theorem W8.build (hh : W8 w1 B n env f g h mn rn la ln lc V t L w') (hc : L.getD 43 false = true) : W8 w1 B n env f g h mn rn la ln lc V t (L.setIfInBounds 44 true) w' := by
  unfold W8
  rw [getD_set_other (by omega), getD_set_other (i := 44) (j := 45) (by omega), getD_set_other (i := 44) (j := 46) (by omega)]
  exact ⟨hh.1, hh.2.1, hh.2.2.1, fun _ => hc, hh.2.2.2.2⟩
theorem W8.clone {w2 : World} {la' : Option Addr} {lc' : Nat} (hh : W8 w1 B n env f g h mn rn la ln lc V t L w') (hs : L.size = 47) (hu : L.getD 43 false = false) (hc : Cl17 w' w2 la' ln V) : W8 w1 B n env f g h mn rn la ln lc V ⟨la', lc', t.g⟩ (L.setIfInBounds 43 true) w2 := by
  obtain ⟨k1, k2, k3⟩ := hc
  unfold W8
  rw [getD_set_same (by omega), getD_set_other (i := 43) (j := 44) (by omega), getD_set_other (i := 43) (j := 45) (by omega), getD_set_other (i := 43) (j := 46) (by omega)]
  have hsz := hh.2.1.size
  refine ⟨(k1.block B (lt_of_block hh.1)).trans hh.1, hh.2.1.trans (k1.mono hsz), fun _ => ⟨k2, fun x hx => ⟨by have := (k3 x hx).1; omega, (k3 x hx).2⟩⟩, fun _ => rfl, fun hg => ?_, fun h4 => absurd (hh.2.2.2.2.2 h4).2 (by rw [hu]; simp)⟩
  obtain ⟨g1, g2, g3⟩ := hh.2.2.2.2.1 hg
  have hlt := lt_of_block g2
  refine ⟨g1, ?_, fun _ x hx => by have := (k3 x hx).1; show x.block ≠ t.g; omega⟩
  have h4 : L.getD 46 false = false := by
    cases e : L.getD 46 false
    · rfl
    · have := (hh.2.2.2.2.2 e).2; rw [hu] at this; cases this
  rw [h4, if_neg Bool.false_ne_true] at g2 ⊢
  exact (k1.block t.g hlt).trans g2
theorem W8.alloc (hh : W8 w1 B n env f g h mn rn la ln lc V t L w') (hs : L.size = 47) (hu : L.getD 45 false = false) : W8 w1 B n env f g h mn rn la ln lc V ⟨t.la, t.lc, w'.heap.size⟩ (L.setIfInBounds 45 true) (w'.alloc (.cells cz 97)) := by
  unfold W8
  rw [getD_set_same (by omega), getD_set_other (i := 45) (j := 43) (by omega), getD_set_other (i := 45) (j := 44) (by omega), getD_set_other (i := 45) (j := 46) (by omega)]
  have hb : Below w'.heap.size w' (w'.alloc (.cells cz 97)) := (Below.refl _ _).alloc (Nat.le_refl _) _
  have hsz := hh.2.1.size
  have h4 : L.getD 46 false = false := by
    cases e : L.getD 46 false
    · rfl
    · have := (hh.2.2.2.2.2 e).1; rw [hu] at this; cases this
  refine ⟨(hb.block B (lt_of_block hh.1)).trans hh.1, hh.2.1.trans (hb.mono hsz), fun hc => ⟨(hh.2.2.1 hc).1.below hb, fun x hx => ⟨((hh.2.2.1 hc).2 x hx).1, by have := ((hh.2.2.1 hc).2 x hx).2; simp; omega⟩⟩, hh.2.2.2.1, fun _ => ⟨hsz, by rw [h4]; exact heap_alloc_new _ _, fun hc x hx => by have := ((hh.2.2.1 hc).2 x hx).2; show x.block ≠ w'.heap.size; omega⟩, fun h5 => by rw [h4] at h5; cases h5⟩
theorem W8.store (hh : W8 w1 B n env f g h mn rn la ln lc V t L w') (hs : L.size = 47) (h45 : L.getD 45 false = true) (h43 : L.getD 43 false = true) (hB : B < w1.heap.size) (hg : w'.heap[t.g]? = some (.cells cz 97 (0, 0))) : W8 w1 B n env f g h mn rn la ln lc V t (L.setIfInBounds 46 true) (w'.setRow t.g (cv (bitB n 0) (bitB n 1) (bitB n 2) (bitB n 3) (bitB n 4) (bitB n 5) (bitB n 6) (bitB n 7) (bitB n 8) (bitB n 9) (bitB n 10) env f g h t.la ln t.lc)) := by
  unfold W8
  rw [getD_set_same (by omega), getD_set_other (i := 46) (j := 43) (by omega), getD_set_other (i := 46) (j := 44) (by omega), getD_set_other (i := 46) (j := 45) (by omega)]
  obtain ⟨g1, g2, g3⟩ := hh.2.2.2.2.1 h45
  refine ⟨(setRow_other _ _ _ _ (by omega)).trans hh.1, below_setRow hh.2.1 g1 _, fun hc => ⟨?_, fun x hx => by rw [setRow_size]; exact (hh.2.2.1 hc).2 x hx⟩, hh.2.2.2.1, fun _ => ⟨g1, setRow_heap _ _ _ _ _ _ hg, g3⟩, fun _ => ⟨h45, h43⟩⟩
  intro h0
  obtain ⟨b, off, e, hcl⟩ := (hh.2.2.1 hc).1 h0
  refine ⟨b, off, e, fun i hi => ?_⟩
  rw [cell_setRow_other _ _ _ _ (show b ≠ t.g from g3 h43 _ e)]
  exact hcl i hi
end
def Good8 (w1 : World) (B : Nat) (n : Int) (env : ByteArray) (f g h : Int) (mn rn : Bool) (la : Option Addr) (ln lc : Nat) (V : Nat → ByteArray) (i : Nat) : Prop := ∀ (o : Oper) (t : Th) (L : Array Bool) (a a0 : Act) (w' : World) (Q : Exit → Act → World → Prop), (0 ≤ n ∧ n < 65536) → ln ≤ 1048576 → Row w1 la ln (fun i => .string (V i)) → (la = none → ln = 0 ∧ lc = 0) → B < w1.heap.size → ops8[i]? = some o → L.size = ops8.size → L.getD i true = false →
  (∀ e ∈ o.after, Region.binds .any e = true → L.getD e.on false = true) → a0.eval (.tmp 1) = .pointer (some ⟨B, 0, none⟩) → Sl ops8 (V8 B t n env f g h mn rn la ln lc) a0 L a → W8 w1 B n env f g h mn rn la ln lc V t L w' →
  o.wp Try.prog a w' (fun a' w'' => ∃ t', a' = a.put o.dst (V8 B t' n env f g h mn rn la ln lc i) ∧ (∀ j, L.getD j false = true → V8 B t' n env f g h mn rn la ln lc j = V8 B t n env f g h mn rn la ln lc j) ∧ W8 w1 B n env f g h mn rn la ln lc V t' (L.setIfInBounds i true) w'') Q
theorem g8_0 (w : World) (B : Nat) (n : Int) (env : ByteArray) (f g h : Int) (mn rn : Bool) (la : Option Addr) (ln lc : Nat) (V : Nat → ByteArray) : Good8 w B n env f g h mn rn la ln lc V 0 := by
  intro o t L a a0 w' Q hn hl hr hnil hB ho hL hu hall h0 hS hW
  have hLs : L.size = 47 := by rw [hL]; exact size8
  have ho1 := at_op (q := Op.fieldAddr 65 (Operand.tmp 1) 0) (by kernel_rfl) ho
  have hx : a.eval (.tmp 1) = .pointer (some ⟨B, 0, none⟩) := (hS.out (by kernel_rfl)).trans h0
  refine pure_op (t := t) (V := fun t => V8 B t n env f g h mn rn la ln lc) (v := .pointer (some ⟨B, 0, none⟩)) ?_ rfl (hW.next (i := 0) (by omega) (by omega) (by omega) (by omega))
  unfold execOp
  simp only [ho1, hx]
  go_simp
theorem g8_1 (w : World) (B : Nat) (n : Int) (env : ByteArray) (f g h : Int) (mn rn : Bool) (la : Option Addr) (ln lc : Nat) (V : Nat → ByteArray) : Good8 w B n env f g h mn rn la ln lc V 1 := by
  intro o t L a a0 w' Q hn hl hr hnil hB ho hL hu hall h0 hS hW
  have hLs : L.size = 47 := by rw [hL]; exact size8
  have ho1 := at_op (q := Op.load 63 (Operand.tmp 4)) (by kernel_rfl) ho
  have hx : a.eval (.tmp 4) = .pointer (some ⟨B, 0, none⟩) := hS.arg (p := 0) (d := 4) ho hall (by kernel_rfl) (by kernel_rfl)
  have hc : w'.cell? ⟨B, 0, none⟩ = some (.int .u16 n) := (cell_of_row _ _ 0 _ _ _ hW.1).trans rfl
  refine pure_op (t := t) (V := fun t => V8 B t n env f g h mn rn la ln lc) (v := .int .u16 n) ?_ rfl (hW.next (i := 1) (by omega) (by omega) (by omega) (by omega))
  unfold execOp
  simp only [ho1, hx]
  go_simp
theorem g8_2 (w : World) (B : Nat) (n : Int) (env : ByteArray) (f g h : Int) (mn rn : Bool) (la : Option Addr) (ln lc : Nat) (V : Nat → ByteArray) : Good8 w B n env f g h mn rn la ln lc V 2 := by
  intro o t L a a0 w' Q hn hl hr hnil hB ho hL hu hall h0 hS hW
  have hLs : L.size = 47 := by rw [hL]; exact size8
  have ho1 := at_op (q := Op.call { callee := Callee.value (Operand.func 16), args := #[Operand.tmp 5, Operand.const (Value.int IntKind.u64 0)], argTypes := #[63, 75] }) (by kernel_rfl) ho
  have hx : a.eval (.tmp 5) = .int .u16 n := hS.arg (p := 1) (d := 5) ho hall (by kernel_rfl) (by kernel_rfl)
  have hrun : (execOp a.eval o).run Try.prog w' = .ok (.enter 16 #[.int .u16 n, .int .u64 0]) w' := by
    unfold execOp
    simp only [ho1, List.map_toArray, List.map_cons, List.map_nil, hx]
    go_simp
    simpa [Act.eval] using hx
  refine k_call hrun (R := fun v w2 => v = .bool (bitB n 0) ∧ w' = w2) ((bit16 w' n 0 hn.1 hn.2 (by omega)).mono fun e w2 hh => ⟨_, hh.1, rfl, hh.2⟩) ?_
  rintro v w2 ⟨rfl, rfl⟩
  exact ⟨t, rfl, fun _ _ => rfl, hW.next (i := 2) (by omega) (by omega) (by omega) (by omega)⟩
theorem g8_3 (w : World) (B : Nat) (n : Int) (env : ByteArray) (f g h : Int) (mn rn : Bool) (la : Option Addr) (ln lc : Nat) (V : Nat → ByteArray) : Good8 w B n env f g h mn rn la ln lc V 3 := by
  intro o t L a a0 w' Q hn hl hr hnil hB ho hL hu hall h0 hS hW
  have hLs : L.size = 47 := by rw [hL]; exact size8
  have ho1 := at_op (q := Op.fieldAddr 65 (Operand.tmp 1) 0) (by kernel_rfl) ho
  have hx : a.eval (.tmp 1) = .pointer (some ⟨B, 0, none⟩) := (hS.out (by kernel_rfl)).trans h0
  refine pure_op (t := t) (V := fun t => V8 B t n env f g h mn rn la ln lc) (v := .pointer (some ⟨B, 0, none⟩)) ?_ rfl (hW.next (i := 3) (by omega) (by omega) (by omega) (by omega))
  unfold execOp
  simp only [ho1, hx]
  go_simp
theorem g8_4 (w : World) (B : Nat) (n : Int) (env : ByteArray) (f g h : Int) (mn rn : Bool) (la : Option Addr) (ln lc : Nat) (V : Nat → ByteArray) : Good8 w B n env f g h mn rn la ln lc V 4 := by
  intro o t L a a0 w' Q hn hl hr hnil hB ho hL hu hall h0 hS hW
  have hLs : L.size = 47 := by rw [hL]; exact size8
  have ho1 := at_op (q := Op.load 63 (Operand.tmp 7)) (by kernel_rfl) ho
  have hx : a.eval (.tmp 7) = .pointer (some ⟨B, 0, none⟩) := hS.arg (p := 3) (d := 7) ho hall (by kernel_rfl) (by kernel_rfl)
  have hc : w'.cell? ⟨B, 0, none⟩ = some (.int .u16 n) := (cell_of_row _ _ 0 _ _ _ hW.1).trans rfl
  refine pure_op (t := t) (V := fun t => V8 B t n env f g h mn rn la ln lc) (v := .int .u16 n) ?_ rfl (hW.next (i := 4) (by omega) (by omega) (by omega) (by omega))
  unfold execOp
  simp only [ho1, hx]
  go_simp
theorem g8_5 (w : World) (B : Nat) (n : Int) (env : ByteArray) (f g h : Int) (mn rn : Bool) (la : Option Addr) (ln lc : Nat) (V : Nat → ByteArray) : Good8 w B n env f g h mn rn la ln lc V 5 := by
  intro o t L a a0 w' Q hn hl hr hnil hB ho hL hu hall h0 hS hW
  have hLs : L.size = 47 := by rw [hL]; exact size8
  have ho1 := at_op (q := Op.call { callee := Callee.value (Operand.func 16), args := #[Operand.tmp 8, Operand.const (Value.int IntKind.u64 1)], argTypes := #[63, 75] }) (by kernel_rfl) ho
  have hx : a.eval (.tmp 8) = .int .u16 n := hS.arg (p := 4) (d := 8) ho hall (by kernel_rfl) (by kernel_rfl)
  have hrun : (execOp a.eval o).run Try.prog w' = .ok (.enter 16 #[.int .u16 n, .int .u64 1]) w' := by
    unfold execOp
    simp only [ho1, List.map_toArray, List.map_cons, List.map_nil, hx]
    go_simp
    simpa [Act.eval] using hx
  refine k_call hrun (R := fun v w2 => v = .bool (bitB n 1) ∧ w' = w2) ((bit16 w' n 1 hn.1 hn.2 (by omega)).mono fun e w2 hh => ⟨_, hh.1, rfl, hh.2⟩) ?_
  rintro v w2 ⟨rfl, rfl⟩
  exact ⟨t, rfl, fun _ _ => rfl, hW.next (i := 5) (by omega) (by omega) (by omega) (by omega)⟩
theorem g8_6 (w : World) (B : Nat) (n : Int) (env : ByteArray) (f g h : Int) (mn rn : Bool) (la : Option Addr) (ln lc : Nat) (V : Nat → ByteArray) : Good8 w B n env f g h mn rn la ln lc V 6 := by
  intro o t L a a0 w' Q hn hl hr hnil hB ho hL hu hall h0 hS hW
  have hLs : L.size = 47 := by rw [hL]; exact size8
  have ho1 := at_op (q := Op.fieldAddr 65 (Operand.tmp 1) 0) (by kernel_rfl) ho
  have hx : a.eval (.tmp 1) = .pointer (some ⟨B, 0, none⟩) := (hS.out (by kernel_rfl)).trans h0
  refine pure_op (t := t) (V := fun t => V8 B t n env f g h mn rn la ln lc) (v := .pointer (some ⟨B, 0, none⟩)) ?_ rfl (hW.next (i := 6) (by omega) (by omega) (by omega) (by omega))
  unfold execOp
  simp only [ho1, hx]
  go_simp
theorem g8_7 (w : World) (B : Nat) (n : Int) (env : ByteArray) (f g h : Int) (mn rn : Bool) (la : Option Addr) (ln lc : Nat) (V : Nat → ByteArray) : Good8 w B n env f g h mn rn la ln lc V 7 := by
  intro o t L a a0 w' Q hn hl hr hnil hB ho hL hu hall h0 hS hW
  have hLs : L.size = 47 := by rw [hL]; exact size8
  have ho1 := at_op (q := Op.load 63 (Operand.tmp 10)) (by kernel_rfl) ho
  have hx : a.eval (.tmp 10) = .pointer (some ⟨B, 0, none⟩) := hS.arg (p := 6) (d := 10) ho hall (by kernel_rfl) (by kernel_rfl)
  have hc : w'.cell? ⟨B, 0, none⟩ = some (.int .u16 n) := (cell_of_row _ _ 0 _ _ _ hW.1).trans rfl
  refine pure_op (t := t) (V := fun t => V8 B t n env f g h mn rn la ln lc) (v := .int .u16 n) ?_ rfl (hW.next (i := 7) (by omega) (by omega) (by omega) (by omega))
  unfold execOp
  simp only [ho1, hx]
  go_simp
theorem g8_8 (w : World) (B : Nat) (n : Int) (env : ByteArray) (f g h : Int) (mn rn : Bool) (la : Option Addr) (ln lc : Nat) (V : Nat → ByteArray) : Good8 w B n env f g h mn rn la ln lc V 8 := by
  intro o t L a a0 w' Q hn hl hr hnil hB ho hL hu hall h0 hS hW
  have hLs : L.size = 47 := by rw [hL]; exact size8
  have ho1 := at_op (q := Op.call { callee := Callee.value (Operand.func 16), args := #[Operand.tmp 11, Operand.const (Value.int IntKind.u64 2)], argTypes := #[63, 75] }) (by kernel_rfl) ho
  have hx : a.eval (.tmp 11) = .int .u16 n := hS.arg (p := 7) (d := 11) ho hall (by kernel_rfl) (by kernel_rfl)
  have hrun : (execOp a.eval o).run Try.prog w' = .ok (.enter 16 #[.int .u16 n, .int .u64 2]) w' := by
    unfold execOp
    simp only [ho1, List.map_toArray, List.map_cons, List.map_nil, hx]
    go_simp
    simpa [Act.eval] using hx
  refine k_call hrun (R := fun v w2 => v = .bool (bitB n 2) ∧ w' = w2) ((bit16 w' n 2 hn.1 hn.2 (by omega)).mono fun e w2 hh => ⟨_, hh.1, rfl, hh.2⟩) ?_
  rintro v w2 ⟨rfl, rfl⟩
  exact ⟨t, rfl, fun _ _ => rfl, hW.next (i := 8) (by omega) (by omega) (by omega) (by omega)⟩
theorem g8_9 (w : World) (B : Nat) (n : Int) (env : ByteArray) (f g h : Int) (mn rn : Bool) (la : Option Addr) (ln lc : Nat) (V : Nat → ByteArray) : Good8 w B n env f g h mn rn la ln lc V 9 := by
  intro o t L a a0 w' Q hn hl hr hnil hB ho hL hu hall h0 hS hW
  have hLs : L.size = 47 := by rw [hL]; exact size8
  have ho1 := at_op (q := Op.fieldAddr 65 (Operand.tmp 1) 0) (by kernel_rfl) ho
  have hx : a.eval (.tmp 1) = .pointer (some ⟨B, 0, none⟩) := (hS.out (by kernel_rfl)).trans h0
  refine pure_op (t := t) (V := fun t => V8 B t n env f g h mn rn la ln lc) (v := .pointer (some ⟨B, 0, none⟩)) ?_ rfl (hW.next (i := 9) (by omega) (by omega) (by omega) (by omega))
  unfold execOp
  simp only [ho1, hx]
  go_simp
theorem g8_10 (w : World) (B : Nat) (n : Int) (env : ByteArray) (f g h : Int) (mn rn : Bool) (la : Option Addr) (ln lc : Nat) (V : Nat → ByteArray) : Good8 w B n env f g h mn rn la ln lc V 10 := by
  intro o t L a a0 w' Q hn hl hr hnil hB ho hL hu hall h0 hS hW
  have hLs : L.size = 47 := by rw [hL]; exact size8
  have ho1 := at_op (q := Op.load 63 (Operand.tmp 13)) (by kernel_rfl) ho
  have hx : a.eval (.tmp 13) = .pointer (some ⟨B, 0, none⟩) := hS.arg (p := 9) (d := 13) ho hall (by kernel_rfl) (by kernel_rfl)
  have hc : w'.cell? ⟨B, 0, none⟩ = some (.int .u16 n) := (cell_of_row _ _ 0 _ _ _ hW.1).trans rfl
  refine pure_op (t := t) (V := fun t => V8 B t n env f g h mn rn la ln lc) (v := .int .u16 n) ?_ rfl (hW.next (i := 10) (by omega) (by omega) (by omega) (by omega))
  unfold execOp
  simp only [ho1, hx]
  go_simp
theorem g8_11 (w : World) (B : Nat) (n : Int) (env : ByteArray) (f g h : Int) (mn rn : Bool) (la : Option Addr) (ln lc : Nat) (V : Nat → ByteArray) : Good8 w B n env f g h mn rn la ln lc V 11 := by
  intro o t L a a0 w' Q hn hl hr hnil hB ho hL hu hall h0 hS hW
  have hLs : L.size = 47 := by rw [hL]; exact size8
  have ho1 := at_op (q := Op.call { callee := Callee.value (Operand.func 16), args := #[Operand.tmp 14, Operand.const (Value.int IntKind.u64 3)], argTypes := #[63, 75] }) (by kernel_rfl) ho
  have hx : a.eval (.tmp 14) = .int .u16 n := hS.arg (p := 10) (d := 14) ho hall (by kernel_rfl) (by kernel_rfl)
  have hrun : (execOp a.eval o).run Try.prog w' = .ok (.enter 16 #[.int .u16 n, .int .u64 3]) w' := by
    unfold execOp
    simp only [ho1, List.map_toArray, List.map_cons, List.map_nil, hx]
    go_simp
    simpa [Act.eval] using hx
  refine k_call hrun (R := fun v w2 => v = .bool (bitB n 3) ∧ w' = w2) ((bit16 w' n 3 hn.1 hn.2 (by omega)).mono fun e w2 hh => ⟨_, hh.1, rfl, hh.2⟩) ?_
  rintro v w2 ⟨rfl, rfl⟩
  exact ⟨t, rfl, fun _ _ => rfl, hW.next (i := 11) (by omega) (by omega) (by omega) (by omega)⟩
theorem g8_12 (w : World) (B : Nat) (n : Int) (env : ByteArray) (f g h : Int) (mn rn : Bool) (la : Option Addr) (ln lc : Nat) (V : Nat → ByteArray) : Good8 w B n env f g h mn rn la ln lc V 12 := by
  intro o t L a a0 w' Q hn hl hr hnil hB ho hL hu hall h0 hS hW
  have hLs : L.size = 47 := by rw [hL]; exact size8
  have ho1 := at_op (q := Op.fieldAddr 65 (Operand.tmp 1) 0) (by kernel_rfl) ho
  have hx : a.eval (.tmp 1) = .pointer (some ⟨B, 0, none⟩) := (hS.out (by kernel_rfl)).trans h0
  refine pure_op (t := t) (V := fun t => V8 B t n env f g h mn rn la ln lc) (v := .pointer (some ⟨B, 0, none⟩)) ?_ rfl (hW.next (i := 12) (by omega) (by omega) (by omega) (by omega))
  unfold execOp
  simp only [ho1, hx]
  go_simp
theorem g8_13 (w : World) (B : Nat) (n : Int) (env : ByteArray) (f g h : Int) (mn rn : Bool) (la : Option Addr) (ln lc : Nat) (V : Nat → ByteArray) : Good8 w B n env f g h mn rn la ln lc V 13 := by
  intro o t L a a0 w' Q hn hl hr hnil hB ho hL hu hall h0 hS hW
  have hLs : L.size = 47 := by rw [hL]; exact size8
  have ho1 := at_op (q := Op.load 63 (Operand.tmp 16)) (by kernel_rfl) ho
  have hx : a.eval (.tmp 16) = .pointer (some ⟨B, 0, none⟩) := hS.arg (p := 12) (d := 16) ho hall (by kernel_rfl) (by kernel_rfl)
  have hc : w'.cell? ⟨B, 0, none⟩ = some (.int .u16 n) := (cell_of_row _ _ 0 _ _ _ hW.1).trans rfl
  refine pure_op (t := t) (V := fun t => V8 B t n env f g h mn rn la ln lc) (v := .int .u16 n) ?_ rfl (hW.next (i := 13) (by omega) (by omega) (by omega) (by omega))
  unfold execOp
  simp only [ho1, hx]
  go_simp
theorem g8_14 (w : World) (B : Nat) (n : Int) (env : ByteArray) (f g h : Int) (mn rn : Bool) (la : Option Addr) (ln lc : Nat) (V : Nat → ByteArray) : Good8 w B n env f g h mn rn la ln lc V 14 := by
  intro o t L a a0 w' Q hn hl hr hnil hB ho hL hu hall h0 hS hW
  have hLs : L.size = 47 := by rw [hL]; exact size8
  have ho1 := at_op (q := Op.call { callee := Callee.value (Operand.func 16), args := #[Operand.tmp 17, Operand.const (Value.int IntKind.u64 4)], argTypes := #[63, 75] }) (by kernel_rfl) ho
  have hx : a.eval (.tmp 17) = .int .u16 n := hS.arg (p := 13) (d := 17) ho hall (by kernel_rfl) (by kernel_rfl)
  have hrun : (execOp a.eval o).run Try.prog w' = .ok (.enter 16 #[.int .u16 n, .int .u64 4]) w' := by
    unfold execOp
    simp only [ho1, List.map_toArray, List.map_cons, List.map_nil, hx]
    go_simp
    simpa [Act.eval] using hx
  refine k_call hrun (R := fun v w2 => v = .bool (bitB n 4) ∧ w' = w2) ((bit16 w' n 4 hn.1 hn.2 (by omega)).mono fun e w2 hh => ⟨_, hh.1, rfl, hh.2⟩) ?_
  rintro v w2 ⟨rfl, rfl⟩
  exact ⟨t, rfl, fun _ _ => rfl, hW.next (i := 14) (by omega) (by omega) (by omega) (by omega)⟩
theorem g8_15 (w : World) (B : Nat) (n : Int) (env : ByteArray) (f g h : Int) (mn rn : Bool) (la : Option Addr) (ln lc : Nat) (V : Nat → ByteArray) : Good8 w B n env f g h mn rn la ln lc V 15 := by
  intro o t L a a0 w' Q hn hl hr hnil hB ho hL hu hall h0 hS hW
  have hLs : L.size = 47 := by rw [hL]; exact size8
  have ho1 := at_op (q := Op.fieldAddr 65 (Operand.tmp 1) 0) (by kernel_rfl) ho
  have hx : a.eval (.tmp 1) = .pointer (some ⟨B, 0, none⟩) := (hS.out (by kernel_rfl)).trans h0
  refine pure_op (t := t) (V := fun t => V8 B t n env f g h mn rn la ln lc) (v := .pointer (some ⟨B, 0, none⟩)) ?_ rfl (hW.next (i := 15) (by omega) (by omega) (by omega) (by omega))
  unfold execOp
  simp only [ho1, hx]
  go_simp
theorem g8_16 (w : World) (B : Nat) (n : Int) (env : ByteArray) (f g h : Int) (mn rn : Bool) (la : Option Addr) (ln lc : Nat) (V : Nat → ByteArray) : Good8 w B n env f g h mn rn la ln lc V 16 := by
  intro o t L a a0 w' Q hn hl hr hnil hB ho hL hu hall h0 hS hW
  have hLs : L.size = 47 := by rw [hL]; exact size8
  have ho1 := at_op (q := Op.load 63 (Operand.tmp 19)) (by kernel_rfl) ho
  have hx : a.eval (.tmp 19) = .pointer (some ⟨B, 0, none⟩) := hS.arg (p := 15) (d := 19) ho hall (by kernel_rfl) (by kernel_rfl)
  have hc : w'.cell? ⟨B, 0, none⟩ = some (.int .u16 n) := (cell_of_row _ _ 0 _ _ _ hW.1).trans rfl
  refine pure_op (t := t) (V := fun t => V8 B t n env f g h mn rn la ln lc) (v := .int .u16 n) ?_ rfl (hW.next (i := 16) (by omega) (by omega) (by omega) (by omega))
  unfold execOp
  simp only [ho1, hx]
  go_simp
theorem g8_17 (w : World) (B : Nat) (n : Int) (env : ByteArray) (f g h : Int) (mn rn : Bool) (la : Option Addr) (ln lc : Nat) (V : Nat → ByteArray) : Good8 w B n env f g h mn rn la ln lc V 17 := by
  intro o t L a a0 w' Q hn hl hr hnil hB ho hL hu hall h0 hS hW
  have hLs : L.size = 47 := by rw [hL]; exact size8
  have ho1 := at_op (q := Op.call { callee := Callee.value (Operand.func 16), args := #[Operand.tmp 20, Operand.const (Value.int IntKind.u64 5)], argTypes := #[63, 75] }) (by kernel_rfl) ho
  have hx : a.eval (.tmp 20) = .int .u16 n := hS.arg (p := 16) (d := 20) ho hall (by kernel_rfl) (by kernel_rfl)
  have hrun : (execOp a.eval o).run Try.prog w' = .ok (.enter 16 #[.int .u16 n, .int .u64 5]) w' := by
    unfold execOp
    simp only [ho1, List.map_toArray, List.map_cons, List.map_nil, hx]
    go_simp
    simpa [Act.eval] using hx
  refine k_call hrun (R := fun v w2 => v = .bool (bitB n 5) ∧ w' = w2) ((bit16 w' n 5 hn.1 hn.2 (by omega)).mono fun e w2 hh => ⟨_, hh.1, rfl, hh.2⟩) ?_
  rintro v w2 ⟨rfl, rfl⟩
  exact ⟨t, rfl, fun _ _ => rfl, hW.next (i := 17) (by omega) (by omega) (by omega) (by omega)⟩
theorem g8_18 (w : World) (B : Nat) (n : Int) (env : ByteArray) (f g h : Int) (mn rn : Bool) (la : Option Addr) (ln lc : Nat) (V : Nat → ByteArray) : Good8 w B n env f g h mn rn la ln lc V 18 := by
  intro o t L a a0 w' Q hn hl hr hnil hB ho hL hu hall h0 hS hW
  have hLs : L.size = 47 := by rw [hL]; exact size8
  have ho1 := at_op (q := Op.fieldAddr 65 (Operand.tmp 1) 0) (by kernel_rfl) ho
  have hx : a.eval (.tmp 1) = .pointer (some ⟨B, 0, none⟩) := (hS.out (by kernel_rfl)).trans h0
  refine pure_op (t := t) (V := fun t => V8 B t n env f g h mn rn la ln lc) (v := .pointer (some ⟨B, 0, none⟩)) ?_ rfl (hW.next (i := 18) (by omega) (by omega) (by omega) (by omega))
  unfold execOp
  simp only [ho1, hx]
  go_simp
theorem g8_19 (w : World) (B : Nat) (n : Int) (env : ByteArray) (f g h : Int) (mn rn : Bool) (la : Option Addr) (ln lc : Nat) (V : Nat → ByteArray) : Good8 w B n env f g h mn rn la ln lc V 19 := by
  intro o t L a a0 w' Q hn hl hr hnil hB ho hL hu hall h0 hS hW
  have hLs : L.size = 47 := by rw [hL]; exact size8
  have ho1 := at_op (q := Op.load 63 (Operand.tmp 22)) (by kernel_rfl) ho
  have hx : a.eval (.tmp 22) = .pointer (some ⟨B, 0, none⟩) := hS.arg (p := 18) (d := 22) ho hall (by kernel_rfl) (by kernel_rfl)
  have hc : w'.cell? ⟨B, 0, none⟩ = some (.int .u16 n) := (cell_of_row _ _ 0 _ _ _ hW.1).trans rfl
  refine pure_op (t := t) (V := fun t => V8 B t n env f g h mn rn la ln lc) (v := .int .u16 n) ?_ rfl (hW.next (i := 19) (by omega) (by omega) (by omega) (by omega))
  unfold execOp
  simp only [ho1, hx]
  go_simp
theorem g8_20 (w : World) (B : Nat) (n : Int) (env : ByteArray) (f g h : Int) (mn rn : Bool) (la : Option Addr) (ln lc : Nat) (V : Nat → ByteArray) : Good8 w B n env f g h mn rn la ln lc V 20 := by
  intro o t L a a0 w' Q hn hl hr hnil hB ho hL hu hall h0 hS hW
  have hLs : L.size = 47 := by rw [hL]; exact size8
  have ho1 := at_op (q := Op.call { callee := Callee.value (Operand.func 16), args := #[Operand.tmp 23, Operand.const (Value.int IntKind.u64 6)], argTypes := #[63, 75] }) (by kernel_rfl) ho
  have hx : a.eval (.tmp 23) = .int .u16 n := hS.arg (p := 19) (d := 23) ho hall (by kernel_rfl) (by kernel_rfl)
  have hrun : (execOp a.eval o).run Try.prog w' = .ok (.enter 16 #[.int .u16 n, .int .u64 6]) w' := by
    unfold execOp
    simp only [ho1, List.map_toArray, List.map_cons, List.map_nil, hx]
    go_simp
    simpa [Act.eval] using hx
  refine k_call hrun (R := fun v w2 => v = .bool (bitB n 6) ∧ w' = w2) ((bit16 w' n 6 hn.1 hn.2 (by omega)).mono fun e w2 hh => ⟨_, hh.1, rfl, hh.2⟩) ?_
  rintro v w2 ⟨rfl, rfl⟩
  exact ⟨t, rfl, fun _ _ => rfl, hW.next (i := 20) (by omega) (by omega) (by omega) (by omega)⟩
theorem g8_21 (w : World) (B : Nat) (n : Int) (env : ByteArray) (f g h : Int) (mn rn : Bool) (la : Option Addr) (ln lc : Nat) (V : Nat → ByteArray) : Good8 w B n env f g h mn rn la ln lc V 21 := by
  intro o t L a a0 w' Q hn hl hr hnil hB ho hL hu hall h0 hS hW
  have hLs : L.size = 47 := by rw [hL]; exact size8
  have ho1 := at_op (q := Op.fieldAddr 65 (Operand.tmp 1) 0) (by kernel_rfl) ho
  have hx : a.eval (.tmp 1) = .pointer (some ⟨B, 0, none⟩) := (hS.out (by kernel_rfl)).trans h0
  refine pure_op (t := t) (V := fun t => V8 B t n env f g h mn rn la ln lc) (v := .pointer (some ⟨B, 0, none⟩)) ?_ rfl (hW.next (i := 21) (by omega) (by omega) (by omega) (by omega))
  unfold execOp
  simp only [ho1, hx]
  go_simp
theorem g8_22 (w : World) (B : Nat) (n : Int) (env : ByteArray) (f g h : Int) (mn rn : Bool) (la : Option Addr) (ln lc : Nat) (V : Nat → ByteArray) : Good8 w B n env f g h mn rn la ln lc V 22 := by
  intro o t L a a0 w' Q hn hl hr hnil hB ho hL hu hall h0 hS hW
  have hLs : L.size = 47 := by rw [hL]; exact size8
  have ho1 := at_op (q := Op.load 63 (Operand.tmp 25)) (by kernel_rfl) ho
  have hx : a.eval (.tmp 25) = .pointer (some ⟨B, 0, none⟩) := hS.arg (p := 21) (d := 25) ho hall (by kernel_rfl) (by kernel_rfl)
  have hc : w'.cell? ⟨B, 0, none⟩ = some (.int .u16 n) := (cell_of_row _ _ 0 _ _ _ hW.1).trans rfl
  refine pure_op (t := t) (V := fun t => V8 B t n env f g h mn rn la ln lc) (v := .int .u16 n) ?_ rfl (hW.next (i := 22) (by omega) (by omega) (by omega) (by omega))
  unfold execOp
  simp only [ho1, hx]
  go_simp
theorem g8_23 (w : World) (B : Nat) (n : Int) (env : ByteArray) (f g h : Int) (mn rn : Bool) (la : Option Addr) (ln lc : Nat) (V : Nat → ByteArray) : Good8 w B n env f g h mn rn la ln lc V 23 := by
  intro o t L a a0 w' Q hn hl hr hnil hB ho hL hu hall h0 hS hW
  have hLs : L.size = 47 := by rw [hL]; exact size8
  have ho1 := at_op (q := Op.call { callee := Callee.value (Operand.func 16), args := #[Operand.tmp 26, Operand.const (Value.int IntKind.u64 7)], argTypes := #[63, 75] }) (by kernel_rfl) ho
  have hx : a.eval (.tmp 26) = .int .u16 n := hS.arg (p := 22) (d := 26) ho hall (by kernel_rfl) (by kernel_rfl)
  have hrun : (execOp a.eval o).run Try.prog w' = .ok (.enter 16 #[.int .u16 n, .int .u64 7]) w' := by
    unfold execOp
    simp only [ho1, List.map_toArray, List.map_cons, List.map_nil, hx]
    go_simp
    simpa [Act.eval] using hx
  refine k_call hrun (R := fun v w2 => v = .bool (bitB n 7) ∧ w' = w2) ((bit16 w' n 7 hn.1 hn.2 (by omega)).mono fun e w2 hh => ⟨_, hh.1, rfl, hh.2⟩) ?_
  rintro v w2 ⟨rfl, rfl⟩
  exact ⟨t, rfl, fun _ _ => rfl, hW.next (i := 23) (by omega) (by omega) (by omega) (by omega)⟩
theorem g8_24 (w : World) (B : Nat) (n : Int) (env : ByteArray) (f g h : Int) (mn rn : Bool) (la : Option Addr) (ln lc : Nat) (V : Nat → ByteArray) : Good8 w B n env f g h mn rn la ln lc V 24 := by
  intro o t L a a0 w' Q hn hl hr hnil hB ho hL hu hall h0 hS hW
  have hLs : L.size = 47 := by rw [hL]; exact size8
  have ho1 := at_op (q := Op.fieldAddr 65 (Operand.tmp 1) 0) (by kernel_rfl) ho
  have hx : a.eval (.tmp 1) = .pointer (some ⟨B, 0, none⟩) := (hS.out (by kernel_rfl)).trans h0
  refine pure_op (t := t) (V := fun t => V8 B t n env f g h mn rn la ln lc) (v := .pointer (some ⟨B, 0, none⟩)) ?_ rfl (hW.next (i := 24) (by omega) (by omega) (by omega) (by omega))
  unfold execOp
  simp only [ho1, hx]
  go_simp
theorem g8_25 (w : World) (B : Nat) (n : Int) (env : ByteArray) (f g h : Int) (mn rn : Bool) (la : Option Addr) (ln lc : Nat) (V : Nat → ByteArray) : Good8 w B n env f g h mn rn la ln lc V 25 := by
  intro o t L a a0 w' Q hn hl hr hnil hB ho hL hu hall h0 hS hW
  have hLs : L.size = 47 := by rw [hL]; exact size8
  have ho1 := at_op (q := Op.load 63 (Operand.tmp 28)) (by kernel_rfl) ho
  have hx : a.eval (.tmp 28) = .pointer (some ⟨B, 0, none⟩) := hS.arg (p := 24) (d := 28) ho hall (by kernel_rfl) (by kernel_rfl)
  have hc : w'.cell? ⟨B, 0, none⟩ = some (.int .u16 n) := (cell_of_row _ _ 0 _ _ _ hW.1).trans rfl
  refine pure_op (t := t) (V := fun t => V8 B t n env f g h mn rn la ln lc) (v := .int .u16 n) ?_ rfl (hW.next (i := 25) (by omega) (by omega) (by omega) (by omega))
  unfold execOp
  simp only [ho1, hx]
  go_simp
theorem g8_26 (w : World) (B : Nat) (n : Int) (env : ByteArray) (f g h : Int) (mn rn : Bool) (la : Option Addr) (ln lc : Nat) (V : Nat → ByteArray) : Good8 w B n env f g h mn rn la ln lc V 26 := by
  intro o t L a a0 w' Q hn hl hr hnil hB ho hL hu hall h0 hS hW
  have hLs : L.size = 47 := by rw [hL]; exact size8
  have ho1 := at_op (q := Op.call { callee := Callee.value (Operand.func 16), args := #[Operand.tmp 29, Operand.const (Value.int IntKind.u64 8)], argTypes := #[63, 75] }) (by kernel_rfl) ho
  have hx : a.eval (.tmp 29) = .int .u16 n := hS.arg (p := 25) (d := 29) ho hall (by kernel_rfl) (by kernel_rfl)
  have hrun : (execOp a.eval o).run Try.prog w' = .ok (.enter 16 #[.int .u16 n, .int .u64 8]) w' := by
    unfold execOp
    simp only [ho1, List.map_toArray, List.map_cons, List.map_nil, hx]
    go_simp
    simpa [Act.eval] using hx
  refine k_call hrun (R := fun v w2 => v = .bool (bitB n 8) ∧ w' = w2) ((bit16 w' n 8 hn.1 hn.2 (by omega)).mono fun e w2 hh => ⟨_, hh.1, rfl, hh.2⟩) ?_
  rintro v w2 ⟨rfl, rfl⟩
  exact ⟨t, rfl, fun _ _ => rfl, hW.next (i := 26) (by omega) (by omega) (by omega) (by omega)⟩
theorem g8_27 (w : World) (B : Nat) (n : Int) (env : ByteArray) (f g h : Int) (mn rn : Bool) (la : Option Addr) (ln lc : Nat) (V : Nat → ByteArray) : Good8 w B n env f g h mn rn la ln lc V 27 := by
  intro o t L a a0 w' Q hn hl hr hnil hB ho hL hu hall h0 hS hW
  have hLs : L.size = 47 := by rw [hL]; exact size8
  have ho1 := at_op (q := Op.fieldAddr 65 (Operand.tmp 1) 0) (by kernel_rfl) ho
  have hx : a.eval (.tmp 1) = .pointer (some ⟨B, 0, none⟩) := (hS.out (by kernel_rfl)).trans h0
  refine pure_op (t := t) (V := fun t => V8 B t n env f g h mn rn la ln lc) (v := .pointer (some ⟨B, 0, none⟩)) ?_ rfl (hW.next (i := 27) (by omega) (by omega) (by omega) (by omega))
  unfold execOp
  simp only [ho1, hx]
  go_simp
theorem g8_28 (w : World) (B : Nat) (n : Int) (env : ByteArray) (f g h : Int) (mn rn : Bool) (la : Option Addr) (ln lc : Nat) (V : Nat → ByteArray) : Good8 w B n env f g h mn rn la ln lc V 28 := by
  intro o t L a a0 w' Q hn hl hr hnil hB ho hL hu hall h0 hS hW
  have hLs : L.size = 47 := by rw [hL]; exact size8
  have ho1 := at_op (q := Op.load 63 (Operand.tmp 31)) (by kernel_rfl) ho
  have hx : a.eval (.tmp 31) = .pointer (some ⟨B, 0, none⟩) := hS.arg (p := 27) (d := 31) ho hall (by kernel_rfl) (by kernel_rfl)
  have hc : w'.cell? ⟨B, 0, none⟩ = some (.int .u16 n) := (cell_of_row _ _ 0 _ _ _ hW.1).trans rfl
  refine pure_op (t := t) (V := fun t => V8 B t n env f g h mn rn la ln lc) (v := .int .u16 n) ?_ rfl (hW.next (i := 28) (by omega) (by omega) (by omega) (by omega))
  unfold execOp
  simp only [ho1, hx]
  go_simp
theorem g8_29 (w : World) (B : Nat) (n : Int) (env : ByteArray) (f g h : Int) (mn rn : Bool) (la : Option Addr) (ln lc : Nat) (V : Nat → ByteArray) : Good8 w B n env f g h mn rn la ln lc V 29 := by
  intro o t L a a0 w' Q hn hl hr hnil hB ho hL hu hall h0 hS hW
  have hLs : L.size = 47 := by rw [hL]; exact size8
  have ho1 := at_op (q := Op.call { callee := Callee.value (Operand.func 16), args := #[Operand.tmp 32, Operand.const (Value.int IntKind.u64 9)], argTypes := #[63, 75] }) (by kernel_rfl) ho
  have hx : a.eval (.tmp 32) = .int .u16 n := hS.arg (p := 28) (d := 32) ho hall (by kernel_rfl) (by kernel_rfl)
  have hrun : (execOp a.eval o).run Try.prog w' = .ok (.enter 16 #[.int .u16 n, .int .u64 9]) w' := by
    unfold execOp
    simp only [ho1, List.map_toArray, List.map_cons, List.map_nil, hx]
    go_simp
    simpa [Act.eval] using hx
  refine k_call hrun (R := fun v w2 => v = .bool (bitB n 9) ∧ w' = w2) ((bit16 w' n 9 hn.1 hn.2 (by omega)).mono fun e w2 hh => ⟨_, hh.1, rfl, hh.2⟩) ?_
  rintro v w2 ⟨rfl, rfl⟩
  exact ⟨t, rfl, fun _ _ => rfl, hW.next (i := 29) (by omega) (by omega) (by omega) (by omega)⟩
theorem g8_30 (w : World) (B : Nat) (n : Int) (env : ByteArray) (f g h : Int) (mn rn : Bool) (la : Option Addr) (ln lc : Nat) (V : Nat → ByteArray) : Good8 w B n env f g h mn rn la ln lc V 30 := by
  intro o t L a a0 w' Q hn hl hr hnil hB ho hL hu hall h0 hS hW
  have hLs : L.size = 47 := by rw [hL]; exact size8
  have ho1 := at_op (q := Op.fieldAddr 65 (Operand.tmp 1) 0) (by kernel_rfl) ho
  have hx : a.eval (.tmp 1) = .pointer (some ⟨B, 0, none⟩) := (hS.out (by kernel_rfl)).trans h0
  refine pure_op (t := t) (V := fun t => V8 B t n env f g h mn rn la ln lc) (v := .pointer (some ⟨B, 0, none⟩)) ?_ rfl (hW.next (i := 30) (by omega) (by omega) (by omega) (by omega))
  unfold execOp
  simp only [ho1, hx]
  go_simp
theorem g8_31 (w : World) (B : Nat) (n : Int) (env : ByteArray) (f g h : Int) (mn rn : Bool) (la : Option Addr) (ln lc : Nat) (V : Nat → ByteArray) : Good8 w B n env f g h mn rn la ln lc V 31 := by
  intro o t L a a0 w' Q hn hl hr hnil hB ho hL hu hall h0 hS hW
  have hLs : L.size = 47 := by rw [hL]; exact size8
  have ho1 := at_op (q := Op.load 63 (Operand.tmp 34)) (by kernel_rfl) ho
  have hx : a.eval (.tmp 34) = .pointer (some ⟨B, 0, none⟩) := hS.arg (p := 30) (d := 34) ho hall (by kernel_rfl) (by kernel_rfl)
  have hc : w'.cell? ⟨B, 0, none⟩ = some (.int .u16 n) := (cell_of_row _ _ 0 _ _ _ hW.1).trans rfl
  refine pure_op (t := t) (V := fun t => V8 B t n env f g h mn rn la ln lc) (v := .int .u16 n) ?_ rfl (hW.next (i := 31) (by omega) (by omega) (by omega) (by omega))
  unfold execOp
  simp only [ho1, hx]
  go_simp
theorem g8_32 (w : World) (B : Nat) (n : Int) (env : ByteArray) (f g h : Int) (mn rn : Bool) (la : Option Addr) (ln lc : Nat) (V : Nat → ByteArray) : Good8 w B n env f g h mn rn la ln lc V 32 := by
  intro o t L a a0 w' Q hn hl hr hnil hB ho hL hu hall h0 hS hW
  have hLs : L.size = 47 := by rw [hL]; exact size8
  have ho1 := at_op (q := Op.call { callee := Callee.value (Operand.func 16), args := #[Operand.tmp 35, Operand.const (Value.int IntKind.u64 10)], argTypes := #[63, 75] }) (by kernel_rfl) ho
  have hx : a.eval (.tmp 35) = .int .u16 n := hS.arg (p := 31) (d := 35) ho hall (by kernel_rfl) (by kernel_rfl)
  have hrun : (execOp a.eval o).run Try.prog w' = .ok (.enter 16 #[.int .u16 n, .int .u64 10]) w' := by
    unfold execOp
    simp only [ho1, List.map_toArray, List.map_cons, List.map_nil, hx]
    go_simp
    simpa [Act.eval] using hx
  refine k_call hrun (R := fun v w2 => v = .bool (bitB n 10) ∧ w' = w2) ((bit16 w' n 10 hn.1 hn.2 (by omega)).mono fun e w2 hh => ⟨_, hh.1, rfl, hh.2⟩) ?_
  rintro v w2 ⟨rfl, rfl⟩
  exact ⟨t, rfl, fun _ _ => rfl, hW.next (i := 32) (by omega) (by omega) (by omega) (by omega)⟩
theorem g8_33 (w : World) (B : Nat) (n : Int) (env : ByteArray) (f g h : Int) (mn rn : Bool) (la : Option Addr) (ln lc : Nat) (V : Nat → ByteArray) : Good8 w B n env f g h mn rn la ln lc V 33 := by
  intro o t L a a0 w' Q hn hl hr hnil hB ho hL hu hall h0 hS hW
  have hLs : L.size = 47 := by rw [hL]; exact size8
  have ho1 := at_op (q := Op.fieldAddr 65 (Operand.tmp 1) 1) (by kernel_rfl) ho
  have hx : a.eval (.tmp 1) = .pointer (some ⟨B, 0, none⟩) := (hS.out (by kernel_rfl)).trans h0
  refine pure_op (t := t) (V := fun t => V8 B t n env f g h mn rn la ln lc) (v := .pointer (some ⟨B, 1, none⟩)) ?_ rfl (hW.next (i := 33) (by omega) (by omega) (by omega) (by omega))
  unfold execOp
  simp only [ho1, hx]
  go_simp
theorem g8_34 (w : World) (B : Nat) (n : Int) (env : ByteArray) (f g h : Int) (mn rn : Bool) (la : Option Addr) (ln lc : Nat) (V : Nat → ByteArray) : Good8 w B n env f g h mn rn la ln lc V 34 := by
  intro o t L a a0 w' Q hn hl hr hnil hB ho hL hu hall h0 hS hW
  have hLs : L.size = 47 := by rw [hL]; exact size8
  have ho1 := at_op (q := Op.load 9 (Operand.tmp 37)) (by kernel_rfl) ho
  have hx : a.eval (.tmp 37) = .pointer (some ⟨B, 1, none⟩) := hS.arg (p := 33) (d := 37) ho hall (by kernel_rfl) (by kernel_rfl)
  have hc : w'.cell? ⟨B, 1, none⟩ = some (.string env) := (cell_of_row _ _ 1 _ _ _ hW.1).trans rfl
  refine pure_op (t := t) (V := fun t => V8 B t n env f g h mn rn la ln lc) (v := .string env) ?_ rfl (hW.next (i := 34) (by omega) (by omega) (by omega) (by omega))
  unfold execOp
  simp only [ho1, hx]
  go_simp
theorem g8_35 (w : World) (B : Nat) (n : Int) (env : ByteArray) (f g h : Int) (mn rn : Bool) (la : Option Addr) (ln lc : Nat) (V : Nat → ByteArray) : Good8 w B n env f g h mn rn la ln lc V 35 := by
  intro o t L a a0 w' Q hn hl hr hnil hB ho hL hu hall h0 hS hW
  have hLs : L.size = 47 := by rw [hL]; exact size8
  have ho1 := at_op (q := Op.fieldAddr 65 (Operand.tmp 1) 2) (by kernel_rfl) ho
  have hx : a.eval (.tmp 1) = .pointer (some ⟨B, 0, none⟩) := (hS.out (by kernel_rfl)).trans h0
  refine pure_op (t := t) (V := fun t => V8 B t n env f g h mn rn la ln lc) (v := .pointer (some ⟨B, 2, none⟩)) ?_ rfl (hW.next (i := 35) (by omega) (by omega) (by omega) (by omega))
  unfold execOp
  simp only [ho1, hx]
  go_simp
theorem g8_36 (w : World) (B : Nat) (n : Int) (env : ByteArray) (f g h : Int) (mn rn : Bool) (la : Option Addr) (ln lc : Nat) (V : Nat → ByteArray) : Good8 w B n env f g h mn rn la ln lc V 36 := by
  intro o t L a a0 w' Q hn hl hr hnil hB ho hL hu hall h0 hS hW
  have hLs : L.size = 47 := by rw [hL]; exact size8
  have ho1 := at_op (q := Op.load 44 (Operand.tmp 39)) (by kernel_rfl) ho
  have hx : a.eval (.tmp 39) = .pointer (some ⟨B, 2, none⟩) := hS.arg (p := 35) (d := 39) ho hall (by kernel_rfl) (by kernel_rfl)
  have hc : w'.cell? ⟨B, 2, none⟩ = some (.int .u64 f) := (cell_of_row _ _ 2 _ _ _ hW.1).trans rfl
  refine pure_op (t := t) (V := fun t => V8 B t n env f g h mn rn la ln lc) (v := .int .u64 f) ?_ rfl (hW.next (i := 36) (by omega) (by omega) (by omega) (by omega))
  unfold execOp
  simp only [ho1, hx]
  go_simp
theorem g8_37 (w : World) (B : Nat) (n : Int) (env : ByteArray) (f g h : Int) (mn rn : Bool) (la : Option Addr) (ln lc : Nat) (V : Nat → ByteArray) : Good8 w B n env f g h mn rn la ln lc V 37 := by
  intro o t L a a0 w' Q hn hl hr hnil hB ho hL hu hall h0 hS hW
  have hLs : L.size = 47 := by rw [hL]; exact size8
  have ho1 := at_op (q := Op.fieldAddr 65 (Operand.tmp 1) 3) (by kernel_rfl) ho
  have hx : a.eval (.tmp 1) = .pointer (some ⟨B, 0, none⟩) := (hS.out (by kernel_rfl)).trans h0
  refine pure_op (t := t) (V := fun t => V8 B t n env f g h mn rn la ln lc) (v := .pointer (some ⟨B, 3, none⟩)) ?_ rfl (hW.next (i := 37) (by omega) (by omega) (by omega) (by omega))
  unfold execOp
  simp only [ho1, hx]
  go_simp
theorem g8_38 (w : World) (B : Nat) (n : Int) (env : ByteArray) (f g h : Int) (mn rn : Bool) (la : Option Addr) (ln lc : Nat) (V : Nat → ByteArray) : Good8 w B n env f g h mn rn la ln lc V 38 := by
  intro o t L a a0 w' Q hn hl hr hnil hB ho hL hu hall h0 hS hW
  have hLs : L.size = 47 := by rw [hL]; exact size8
  have ho1 := at_op (q := Op.load 44 (Operand.tmp 41)) (by kernel_rfl) ho
  have hx : a.eval (.tmp 41) = .pointer (some ⟨B, 3, none⟩) := hS.arg (p := 37) (d := 41) ho hall (by kernel_rfl) (by kernel_rfl)
  have hc : w'.cell? ⟨B, 3, none⟩ = some (.int .u64 g) := (cell_of_row _ _ 3 _ _ _ hW.1).trans rfl
  refine pure_op (t := t) (V := fun t => V8 B t n env f g h mn rn la ln lc) (v := .int .u64 g) ?_ rfl (hW.next (i := 38) (by omega) (by omega) (by omega) (by omega))
  unfold execOp
  simp only [ho1, hx]
  go_simp
theorem g8_39 (w : World) (B : Nat) (n : Int) (env : ByteArray) (f g h : Int) (mn rn : Bool) (la : Option Addr) (ln lc : Nat) (V : Nat → ByteArray) : Good8 w B n env f g h mn rn la ln lc V 39 := by
  intro o t L a a0 w' Q hn hl hr hnil hB ho hL hu hall h0 hS hW
  have hLs : L.size = 47 := by rw [hL]; exact size8
  have ho1 := at_op (q := Op.fieldAddr 65 (Operand.tmp 1) 4) (by kernel_rfl) ho
  have hx : a.eval (.tmp 1) = .pointer (some ⟨B, 0, none⟩) := (hS.out (by kernel_rfl)).trans h0
  refine pure_op (t := t) (V := fun t => V8 B t n env f g h mn rn la ln lc) (v := .pointer (some ⟨B, 4, none⟩)) ?_ rfl (hW.next (i := 39) (by omega) (by omega) (by omega) (by omega))
  unfold execOp
  simp only [ho1, hx]
  go_simp
theorem g8_40 (w : World) (B : Nat) (n : Int) (env : ByteArray) (f g h : Int) (mn rn : Bool) (la : Option Addr) (ln lc : Nat) (V : Nat → ByteArray) : Good8 w B n env f g h mn rn la ln lc V 40 := by
  intro o t L a a0 w' Q hn hl hr hnil hB ho hL hu hall h0 hS hW
  have hLs : L.size = 47 := by rw [hL]; exact size8
  have ho1 := at_op (q := Op.load 44 (Operand.tmp 43)) (by kernel_rfl) ho
  have hx : a.eval (.tmp 43) = .pointer (some ⟨B, 4, none⟩) := hS.arg (p := 39) (d := 43) ho hall (by kernel_rfl) (by kernel_rfl)
  have hc : w'.cell? ⟨B, 4, none⟩ = some (.int .u64 h) := (cell_of_row _ _ 4 _ _ _ hW.1).trans rfl
  refine pure_op (t := t) (V := fun t => V8 B t n env f g h mn rn la ln lc) (v := .int .u64 h) ?_ rfl (hW.next (i := 40) (by omega) (by omega) (by omega) (by omega))
  unfold execOp
  simp only [ho1, hx]
  go_simp
theorem g8_41 (w : World) (B : Nat) (n : Int) (env : ByteArray) (f g h : Int) (mn rn : Bool) (la : Option Addr) (ln lc : Nat) (V : Nat → ByteArray) : Good8 w B n env f g h mn rn la ln lc V 41 := by
  intro o t L a a0 w' Q hn hl hr hnil hB ho hL hu hall h0 hS hW
  have hLs : L.size = 47 := by rw [hL]; exact size8
  have ho1 := at_op (q := Op.fieldAddr 65 (Operand.tmp 1) 7) (by kernel_rfl) ho
  have hx : a.eval (.tmp 1) = .pointer (some ⟨B, 0, none⟩) := (hS.out (by kernel_rfl)).trans h0
  refine pure_op (t := t) (V := fun t => V8 B t n env f g h mn rn la ln lc) (v := .pointer (some ⟨B, 7, none⟩)) ?_ rfl (hW.next (i := 41) (by omega) (by omega) (by omega) (by omega))
  unfold execOp
  simp only [ho1, hx]
  go_simp
theorem g8_42 (w : World) (B : Nat) (n : Int) (env : ByteArray) (f g h : Int) (mn rn : Bool) (la : Option Addr) (ln lc : Nat) (V : Nat → ByteArray) : Good8 w B n env f g h mn rn la ln lc V 42 := by
  intro o t L a a0 w' Q hn hl hr hnil hB ho hL hu hall h0 hS hW
  have hLs : L.size = 47 := by rw [hL]; exact size8
  have ho1 := at_op (q := Op.load 25 (Operand.tmp 45)) (by kernel_rfl) ho
  have hx : a.eval (.tmp 45) = .pointer (some ⟨B, 7, none⟩) := hS.arg (p := 41) (d := 45) ho hall (by kernel_rfl) (by kernel_rfl)
  have hc : w'.cell? ⟨B, 7, none⟩ = some (.slice la ln lc) := (cell_of_row _ _ 7 _ _ _ hW.1).trans rfl
  refine pure_op (t := t) (V := fun t => V8 B t n env f g h mn rn la ln lc) (v := .slice la ln lc) ?_ rfl (hW.next (i := 42) (by omega) (by omega) (by omega) (by omega))
  unfold execOp
  simp only [ho1, hx]
  go_simp
theorem g8_43 (w : World) (B : Nat) (n : Int) (env : ByteArray) (f g h : Int) (mn rn : Bool) (la : Option Addr) (ln lc : Nat) (V : Nat → ByteArray) : Good8 w B n env f g h mn rn la ln lc V 43 := by
  intro o t L a a0 w' Q hn hl hr hnil hB ho hL hu hall h0 hS hW
  have hLs : L.size = 47 := by rw [hL]; exact size8
  have ho1 := at_op (q := Op.call { callee := Callee.value (Operand.func 17), args := #[Operand.tmp 46], argTypes := #[25] }) (by kernel_rfl) ho
  have hx : a.eval (.tmp 46) = .slice la ln lc := hS.arg (p := 42) (d := 46) ho hall (by kernel_rfl) (by kernel_rfl)
  have hrun : (execOp a.eval o).run Try.prog w' = .ok (.enter 17 #[.slice la ln lc]) w' := by
    unfold execOp
    simp only [ho1, List.map_toArray, List.map_cons, List.map_nil, hx]
    go_simp
    simpa [Act.eval] using hx
  refine k_call hrun (R := fun v w2 => ∃ la' lc', v = .slice la' ln lc' ∧ Cl17 w' w2 la' ln V) ((clone17r w' la ln lc V hl (hr.below (hW.2.1)) hnil).mono fun e w2 ⟨la', lc', h1, h2⟩ => ⟨_, h1, la', lc', rfl, h2⟩) ?_
  rintro v w2 ⟨la', lc', rfl, h2⟩
  exact ⟨⟨la', lc', t.g⟩, rfl, fun j hj => V8_la B t _ _ n env f g h mn rn la ln lc j (by rintro rfl; rw [getD_false_of_unlisted hu] at hj; cases hj) (by rintro rfl; have := hW.2.2.2.1 hj; rw [getD_false_of_unlisted hu] at this; cases this), hW.clone hLs (getD_false_of_unlisted hu) h2⟩
theorem g8_44 (w : World) (B : Nat) (n : Int) (env : ByteArray) (f g h : Int) (mn rn : Bool) (la : Option Addr) (ln lc : Nat) (V : Nat → ByteArray) : Good8 w B n env f g h mn rn la ln lc V 44 := by
  intro o t L a a0 w' Q hn hl hr hnil hB ho hL hu hall h0 hS hW
  have hLs : L.size = 47 := by rw [hL]; exact size8
  have ho1 := at_op (q := Op.build 97 #[(67, Operand.tmp 6), (68, Operand.tmp 9), (53, Operand.tmp 12), (52, Operand.tmp 15), (51, Operand.tmp 18), (65, Operand.tmp 21), (66, Operand.tmp 24), (69, Operand.tmp 27), (70, Operand.tmp 30), (71, Operand.tmp 33), (72, Operand.tmp 36), (7, Operand.tmp 38), (42, Operand.tmp 40), (44, Operand.tmp 42), (45, Operand.tmp 44), (8, Operand.tmp 47)]) (by kernel_rfl) ho
  have hx6 : a.eval (.tmp 6) = .bool (bitB n 0) := hS.arg (p := 2) (d := 6) ho hall (by kernel_rfl) (by kernel_rfl)
  have hx9 : a.eval (.tmp 9) = .bool (bitB n 1) := hS.arg (p := 5) (d := 9) ho hall (by kernel_rfl) (by kernel_rfl)
  have hx12 : a.eval (.tmp 12) = .bool (bitB n 2) := hS.arg (p := 8) (d := 12) ho hall (by kernel_rfl) (by kernel_rfl)
  have hx15 : a.eval (.tmp 15) = .bool (bitB n 3) := hS.arg (p := 11) (d := 15) ho hall (by kernel_rfl) (by kernel_rfl)
  have hx18 : a.eval (.tmp 18) = .bool (bitB n 4) := hS.arg (p := 14) (d := 18) ho hall (by kernel_rfl) (by kernel_rfl)
  have hx21 : a.eval (.tmp 21) = .bool (bitB n 5) := hS.arg (p := 17) (d := 21) ho hall (by kernel_rfl) (by kernel_rfl)
  have hx24 : a.eval (.tmp 24) = .bool (bitB n 6) := hS.arg (p := 20) (d := 24) ho hall (by kernel_rfl) (by kernel_rfl)
  have hx27 : a.eval (.tmp 27) = .bool (bitB n 7) := hS.arg (p := 23) (d := 27) ho hall (by kernel_rfl) (by kernel_rfl)
  have hx30 : a.eval (.tmp 30) = .bool (bitB n 8) := hS.arg (p := 26) (d := 30) ho hall (by kernel_rfl) (by kernel_rfl)
  have hx33 : a.eval (.tmp 33) = .bool (bitB n 9) := hS.arg (p := 29) (d := 33) ho hall (by kernel_rfl) (by kernel_rfl)
  have hx36 : a.eval (.tmp 36) = .bool (bitB n 10) := hS.arg (p := 32) (d := 36) ho hall (by kernel_rfl) (by kernel_rfl)
  have hx38 : a.eval (.tmp 38) = .string env := hS.arg (p := 34) (d := 38) ho hall (by kernel_rfl) (by kernel_rfl)
  have hx40 : a.eval (.tmp 40) = .int .u64 f := hS.arg (p := 36) (d := 40) ho hall (by kernel_rfl) (by kernel_rfl)
  have hx42 : a.eval (.tmp 42) = .int .u64 g := hS.arg (p := 38) (d := 42) ho hall (by kernel_rfl) (by kernel_rfl)
  have hx44 : a.eval (.tmp 44) = .int .u64 h := hS.arg (p := 40) (d := 44) ho hall (by kernel_rfl) (by kernel_rfl)
  have hx47 : a.eval (.tmp 47) = .slice t.la ln t.lc := hS.arg (p := 43) (d := 47) ho hall (by kernel_rfl) (by kernel_rfl)
  have h43 := dep_listed (p := 43) (by kernel_rfl) ho hall
  refine pure_op (t := t) (V := fun t => V8 B t n env f g h mn rn la ln lc) (k_build 97 _ ho1 (cv (bitB n 0) (bitB n 1) (bitB n 2) (bitB n 3) (bitB n 4) (bitB n 5) (bitB n 6) (bitB n 7) (bitB n 8) (bitB n 9) (bitB n 10) env f g h t.la ln t.lc) ?_) rfl (hW.build h43)
  simp only [List.map_toArray, List.map_cons, List.map_nil, hx6, hx9, hx12, hx15, hx18, hx21, hx24, hx27, hx30, hx33, hx36, hx38, hx40, hx42, hx44, hx47]
  exact cv_built (bitB n 0) (bitB n 1) (bitB n 2) (bitB n 3) (bitB n 4) (bitB n 5) (bitB n 6) (bitB n 7) (bitB n 8) (bitB n 9) (bitB n 10) env f g h t.la ln t.lc
theorem g8_45 (w : World) (B : Nat) (n : Int) (env : ByteArray) (f g h : Int) (mn rn : Bool) (la : Option Addr) (ln lc : Nat) (V : Nat → ByteArray) : Good8 w B n env f g h mn rn la ln lc V 45 := by
  intro o t L a a0 w' Q hn hl hr hnil hB ho hL hu hall h0 hS hW
  have hLs : L.size = 47 := by rw [hL]; exact size8
  have ho1 := at_op (q := Op.alloc 97) (by kernel_rfl) ho
  unfold Oper.wp
  rw [alloc97_run _ _ ho1 w', Oper.upon_value]
  exact ⟨⟨t.la, t.lc, w'.heap.size⟩, rfl, fun j hj => V8_g B t _ n env f g h mn rn la ln lc j (by rintro rfl; rw [getD_false_of_unlisted hu] at hj; cases hj), hW.alloc hLs (getD_false_of_unlisted hu)⟩
theorem g8_46 (w : World) (B : Nat) (n : Int) (env : ByteArray) (f g h : Int) (mn rn : Bool) (la : Option Addr) (ln lc : Nat) (V : Nat → ByteArray) : Good8 w B n env f g h mn rn la ln lc V 46 := by
  intro o t L a a0 w' Q hn hl hr hnil hB ho hL hu hall h0 hS hW
  have hLs : L.size = 47 := by rw [hL]; exact size8
  have ho1 := at_op (q := Op.store 97 (Operand.tmp 3) (Operand.tmp 48)) (by kernel_rfl) ho
  have hx : a.eval (.tmp 3) = .pointer (some ⟨t.g, 0, none⟩) := hS.arg (p := 45) (d := 3) ho hall (by kernel_rfl) (by kernel_rfl)
  have hy : a.eval (.tmp 48) = .agg (cv (bitB n 0) (bitB n 1) (bitB n 2) (bitB n 3) (bitB n 4) (bitB n 5) (bitB n 6) (bitB n 7) (bitB n 8) (bitB n 9) (bitB n 10) env f g h t.la ln t.lc) := hS.arg (p := 44) (d := 48) ho hall (by kernel_rfl) (by kernel_rfl)
  have hd := at_dst (d := none) (by kernel_rfl) ho
  have h43 := dep_listed (p := 43) (by kernel_rfl) ho hall
  have h45 := dep_listed (p := 45) (by kernel_rfl) ho hall
  obtain ⟨k1, k2, k3⟩ := hW.2.2.2.2.1 h45
  rw [getD_false_of_unlisted hu, if_neg (by simp)] at k2
  refine wp_store_row 97 _ _ ho1 t.g _ hx hy 97 cz k2 (by rw [cv_size]; kernel_rfl) (by rw [cv_size]; kernel_rfl) (by kernel_rfl) ?_
  exact ⟨t, by rw [hd]; rfl, fun _ _ => rfl, hW.store hLs h45 h43 hB k2⟩
end Go.Proofs.Ytbebfpmnekbldaa.op
