/-
  Safe expressions: what one is, and isSafeForConstLocalPrefix walked.
-/
import Derived.Test.YthhlioepgfjknaaProg
import Derived.WalkKit
import Derived.ProofKit
import Derived.Below
import Derived.ChangeOld
import Derived.OpenShut
import Derived.Lib.Hide
import Derived.WalkLawsBesides
import Derived.Deep.OwnRows
import Derived.Laws.Rows
import Derived.WalkSpells
import Derived.Laws.Tables
import Derived.WalkSmall
import Derived.Outline
import Derived.BigQuiet
import Derived.Deep.RegionLaw
import Derived.Deep.RegionWith
namespace Go.Proofs.Ythhlioepgfjknaa.sf
open Go.ChangeShapes Go.WideShapes Go.ChangeAt Go.RowKit Go.Deep
set_option linter.unusedVariables false
set_option linter.unusedSimpArgs false
/-- A slice of n elements, V i at place i; of an empty one nothing is said. -/
def Row (w : World) (a : Option Addr) (n : Nat) (V : Nat → Value) : Prop := 0 < n → ∃ b off, a = some ⟨b, off, none⟩ ∧ ∀ i, i < n → w.cell? ⟨b, off + i, none⟩ = some (V i)
theorem Row.below {w w' : World} {a : Option Addr} {n : Nat} {V : Nat → Value} (h : Row w a n V) (hb : Below w.heap.size w w') : Row w' a n V := by
  intro h0
  obtain ⟨b, off, rfl, hc⟩ := h h0
  refine ⟨b, off, rfl, fun i hi => ?_⟩
  have h1 := hc i hi
  exact (hb.cell (p := ⟨b, off + i, none⟩) (block_lt_of_cell h1)).trans h1
theorem Row.of_cells {w : World} {a : Addr} {n m : Nat} {V : Nat → Value} (hn : n ≤ m) (h : ∀ i, i < m → w.cell? (a.add i) = some (V i)) : Row w (some a) n V := by
  intro h0
  obtain ⟨b, off, spot⟩ := a
  have hspot : spot = none := by simpa [Addr.add] using World.cell?_spot (h 0 (by omega))
  subst hspot
  exact ⟨b, off, rfl, fun j hj => by rw [← Go.WideShapes.add_plain]; exact h j (by omega)⟩
theorem wf_zero (k : IntKind) : (Lit.int k 0).wf = true := by cases k <;> decide
/-- What a walk is told of a slice of integers that came in. -/
def IsInts (k : IntKind) (w : World) (a : Option Addr) (len cap : Nat) (Z : Nat → Int) : Prop :=
  (a = none → len = 0 ∧ cap = 0) ∧ len ≤ maxLen ∧ Row w a len (fun i => .int k (Z i)) ∧ ∀ i, (Lit.int k (Z i)).wf = true
theorem IsInts.nil (k : IntKind) (w : World) : IsInts k w none 0 0 (fun _ => 0) := ⟨fun _ => ⟨rfl, rfl⟩, by unfold maxLen; omega, fun h => by omega, fun i => wf_zero k⟩
theorem IsInts.mk {k : IntKind} {w : World} {a : Addr} {len cap : Nat} {zs : List Int} (hl : len ≤ cap) (hm : cap ≤ maxLen) (hz : zs.length = cap)
    (h : ∀ i, i < zs.length → w.cell? (a.add i) = some (.int k (zs.getD i 0))) (hwz : ∀ n ∈ zs, (Lit.int k n).wf = true) : IsInts k w (some a) len cap (fun i => zs.getD i 0) := by
  refine ⟨by simp, by omega, Row.of_cells (V := fun i => .int k (zs.getD i 0)) (by omega) h, fun i => ?_⟩
  show (Lit.int k (zs.getD i 0)).wf = true
  rw [List.getD_eq_getElem?_getD]
  cases e : zs[i]? with
  | none => exact wf_zero k
  | some s => exact hwz s (List.mem_of_getElem? e)
@[go_sem] theorem as26_251_yes (v : Value) (w : World) : (Instr.typeAssert (.iface 251 v) 26 251 true).run Try.prog w = .ok (.tuple #[v, .bool true]) w := by kernel_rfl
@[go_sem] theorem as26_251_nil (w : World) : (Instr.typeAssert .nilIface 26 251 true).run Try.prog w = .ok (.tuple #[.pointer none, .bool false]) w := by kernel_rfl
theorem as26_251_zero (w : World) : (do pure (Value.tuple #[← zeroValue 251, .bool false]) : Sem Value).run Try.prog w = .ok (.tuple #[.pointer none, .bool false]) w := by kernel_rfl
@[go_sem] theorem as26_251_no (u : TypeId) (v : Value) (w : World) (h : u ≠ 251) : (Instr.typeAssert (.iface u v) 26 251 true).run Try.prog w = .ok (.tuple #[.pointer none, .bool false]) w := by
  have e : (Instr.typeAssert (.iface u v) 26 251 true).run Try.prog w = (if u = 251 then (pure (Value.tuple #[v, .bool true]) : Sem Value) else (do pure (Value.tuple #[← zeroValue 251, .bool false]))).run Try.prog w := by kernel_rfl
  rw [e, if_neg h]
  exact as26_251_zero w
@[go_sem] theorem as26_254_yes (v : Value) (w : World) : (Instr.typeAssert (.iface 254 v) 26 254 true).run Try.prog w = .ok (.tuple #[v, .bool true]) w := by kernel_rfl
@[go_sem] theorem as26_254_nil (w : World) : (Instr.typeAssert .nilIface 26 254 true).run Try.prog w = .ok (.tuple #[.pointer none, .bool false]) w := by kernel_rfl
theorem as26_254_zero (w : World) : (do pure (Value.tuple #[← zeroValue 254, .bool false]) : Sem Value).run Try.prog w = .ok (.tuple #[.pointer none, .bool false]) w := by kernel_rfl
@[go_sem] theorem as26_254_no (u : TypeId) (v : Value) (w : World) (h : u ≠ 254) : (Instr.typeAssert (.iface u v) 26 254 true).run Try.prog w = .ok (.tuple #[.pointer none, .bool false]) w := by
  have e : (Instr.typeAssert (.iface u v) 26 254 true).run Try.prog w = (if u = 254 then (pure (Value.tuple #[v, .bool true]) : Sem Value) else (do pure (Value.tuple #[← zeroValue 254, .bool false]))).run Try.prog w := by kernel_rfl
  rw [e, if_neg h]
  exact as26_254_zero w
@[go_sem] theorem as26_257_yes (v : Value) (w : World) : (Instr.typeAssert (.iface 257 v) 26 257 true).run Try.prog w = .ok (.tuple #[v, .bool true]) w := by kernel_rfl
@[go_sem] theorem as26_257_nil (w : World) : (Instr.typeAssert .nilIface 26 257 true).run Try.prog w = .ok (.tuple #[.pointer none, .bool false]) w := by kernel_rfl
theorem as26_257_zero (w : World) : (do pure (Value.tuple #[← zeroValue 257, .bool false]) : Sem Value).run Try.prog w = .ok (.tuple #[.pointer none, .bool false]) w := by kernel_rfl
@[go_sem] theorem as26_257_no (u : TypeId) (v : Value) (w : World) (h : u ≠ 257) : (Instr.typeAssert (.iface u v) 26 257 true).run Try.prog w = .ok (.tuple #[.pointer none, .bool false]) w := by
  have e : (Instr.typeAssert (.iface u v) 26 257 true).run Try.prog w = (if u = 257 then (pure (Value.tuple #[v, .bool true]) : Sem Value) else (do pure (Value.tuple #[← zeroValue 257, .bool false]))).run Try.prog w := by kernel_rfl
  rw [e, if_neg h]
  exact as26_257_zero w
@[go_sem] theorem as26_260_yes (v : Value) (w : World) : (Instr.typeAssert (.iface 260 v) 26 260 true).run Try.prog w = .ok (.tuple #[v, .bool true]) w := by kernel_rfl
@[go_sem] theorem as26_260_nil (w : World) : (Instr.typeAssert .nilIface 26 260 true).run Try.prog w = .ok (.tuple #[.pointer none, .bool false]) w := by kernel_rfl
theorem as26_260_zero (w : World) : (do pure (Value.tuple #[← zeroValue 260, .bool false]) : Sem Value).run Try.prog w = .ok (.tuple #[.pointer none, .bool false]) w := by kernel_rfl
@[go_sem] theorem as26_260_no (u : TypeId) (v : Value) (w : World) (h : u ≠ 260) : (Instr.typeAssert (.iface u v) 26 260 true).run Try.prog w = .ok (.tuple #[.pointer none, .bool false]) w := by
  have e : (Instr.typeAssert (.iface u v) 26 260 true).run Try.prog w = (if u = 260 then (pure (Value.tuple #[v, .bool true]) : Sem Value) else (do pure (Value.tuple #[← zeroValue 260, .bool false]))).run Try.prog w := by kernel_rfl
  rw [e, if_neg h]
  exact as26_260_zero w
@[go_sem] theorem as26_232_yes (v : Value) (w : World) : (Instr.typeAssert (.iface 232 v) 26 232 true).run Try.prog w = .ok (.tuple #[v, .bool true]) w := by kernel_rfl
@[go_sem] theorem as26_232_nil (w : World) : (Instr.typeAssert .nilIface 26 232 true).run Try.prog w = .ok (.tuple #[.pointer none, .bool false]) w := by kernel_rfl
theorem as26_232_zero (w : World) : (do pure (Value.tuple #[← zeroValue 232, .bool false]) : Sem Value).run Try.prog w = .ok (.tuple #[.pointer none, .bool false]) w := by kernel_rfl
@[go_sem] theorem as26_232_no (u : TypeId) (v : Value) (w : World) (h : u ≠ 232) : (Instr.typeAssert (.iface u v) 26 232 true).run Try.prog w = .ok (.tuple #[.pointer none, .bool false]) w := by
  have e : (Instr.typeAssert (.iface u v) 26 232 true).run Try.prog w = (if u = 232 then (pure (Value.tuple #[v, .bool true]) : Sem Value) else (do pure (Value.tuple #[← zeroValue 232, .bool false]))).run Try.prog w := by kernel_rfl
  rw [e, if_neg h]
  exact as26_232_zero w
@[go_sem] theorem as26_244_yes (v : Value) (w : World) : (Instr.typeAssert (.iface 244 v) 26 244 true).run Try.prog w = .ok (.tuple #[v, .bool true]) w := by kernel_rfl
@[go_sem] theorem as26_244_nil (w : World) : (Instr.typeAssert .nilIface 26 244 true).run Try.prog w = .ok (.tuple #[.pointer none, .bool false]) w := by kernel_rfl
theorem as26_244_zero (w : World) : (do pure (Value.tuple #[← zeroValue 244, .bool false]) : Sem Value).run Try.prog w = .ok (.tuple #[.pointer none, .bool false]) w := by kernel_rfl
@[go_sem] theorem as26_244_no (u : TypeId) (v : Value) (w : World) (h : u ≠ 244) : (Instr.typeAssert (.iface u v) 26 244 true).run Try.prog w = .ok (.tuple #[.pointer none, .bool false]) w := by
  have e : (Instr.typeAssert (.iface u v) 26 244 true).run Try.prog w = (if u = 244 then (pure (Value.tuple #[v, .bool true]) : Sem Value) else (do pure (Value.tuple #[← zeroValue 244, .bool false]))).run Try.prog w := by kernel_rfl
  rw [e, if_neg h]
  exact as26_244_zero w
@[go_sem] theorem as26_200_yes (v : Value) (w : World) : (Instr.typeAssert (.iface 200 v) 26 200 true).run Try.prog w = .ok (.tuple #[v, .bool true]) w := by kernel_rfl
@[go_sem] theorem as26_200_nil (w : World) : (Instr.typeAssert .nilIface 26 200 true).run Try.prog w = .ok (.tuple #[.pointer none, .bool false]) w := by kernel_rfl
theorem as26_200_zero (w : World) : (do pure (Value.tuple #[← zeroValue 200, .bool false]) : Sem Value).run Try.prog w = .ok (.tuple #[.pointer none, .bool false]) w := by kernel_rfl
@[go_sem] theorem as26_200_no (u : TypeId) (v : Value) (w : World) (h : u ≠ 200) : (Instr.typeAssert (.iface u v) 26 200 true).run Try.prog w = .ok (.tuple #[.pointer none, .bool false]) w := by
  have e : (Instr.typeAssert (.iface u v) 26 200 true).run Try.prog w = (if u = 200 then (pure (Value.tuple #[v, .bool true]) : Sem Value) else (do pure (Value.tuple #[← zeroValue 200, .bool false]))).run Try.prog w := by kernel_rfl
  rw [e, if_neg h]
  exact as26_200_zero w
@[go_sem] theorem as26_228_yes (v : Value) (w : World) : (Instr.typeAssert (.iface 228 v) 26 228 true).run Try.prog w = .ok (.tuple #[v, .bool true]) w := by kernel_rfl
@[go_sem] theorem as26_228_nil (w : World) : (Instr.typeAssert .nilIface 26 228 true).run Try.prog w = .ok (.tuple #[.pointer none, .bool false]) w := by kernel_rfl
theorem as26_228_zero (w : World) : (do pure (Value.tuple #[← zeroValue 228, .bool false]) : Sem Value).run Try.prog w = .ok (.tuple #[.pointer none, .bool false]) w := by kernel_rfl
@[go_sem] theorem as26_228_no (u : TypeId) (v : Value) (w : World) (h : u ≠ 228) : (Instr.typeAssert (.iface u v) 26 228 true).run Try.prog w = .ok (.tuple #[.pointer none, .bool false]) w := by
  have e : (Instr.typeAssert (.iface u v) 26 228 true).run Try.prog w = (if u = 228 then (pure (Value.tuple #[v, .bool true]) : Sem Value) else (do pure (Value.tuple #[← zeroValue 228, .bool false]))).run Try.prog w := by kernel_rfl
  rw [e, if_neg h]
  exact as26_228_zero w

def leafT (T : Nat) : Prop := T = 251 ∨ T = 254 ∨ T = 257 ∨ T = 260 ∨ T = 232 ∨ T = 244
def noT (T : Nat) : Prop := T = 42 ∨ T = 79 ∨ T = 262 ∨ T = 264
/-- The expression of kind T at block b, at most d arrays deep, all its blocks in P, is safe as s says. -/
def Sf (P : Nat → Prop) (w : World) : Nat → Nat → Nat → Bool → Prop
  | 0, T, b, s => (leafT T ∧ s = true) ∨ (noT T ∧ s = false) ∨ (T = 228 ∧ P b ∧ ∃ a n c, w.cell? ⟨b, 0, none⟩ = some (.slice a n c) ∧ s = decide (n = 0))
  | d + 1, T, b, s => ((leafT T ∧ s = true) ∨ (noT T ∧ s = false) ∨ (T = 228 ∧ P b ∧ ∃ a n c, w.cell? ⟨b, 0, none⟩ = some (.slice a n c) ∧ s = decide (n = 0))) ∨
    (T = 200 ∧ P b ∧ ∃ (a : Option Addr) (n c : Nat) (S : Nat → Bool), w.cell? ⟨b, 0, none⟩ = some (.slice a n c) ∧ n ≤ 65536 ∧
      (0 < n → ∃ G, a = some ⟨G, 0, none⟩ ∧ P G ∧ ∀ i, i < n → ∃ (Ti bi : Nat) (l : Int), w.cell? ⟨G, i * 2, none⟩ = some (.iface Ti (.pointer (some ⟨bi, 0, none⟩))) ∧ w.cell? ⟨G, i * 2 + 1, none⟩ = some (.int .i32 l) ∧ Sf P w d Ti bi (S i)) ∧ (s = true ↔ ∀ i, i < n → S i = true))
theorem Sf.keep {P : Nat → Prop} {w w' : World} (e : ∀ q, q < w.heap.size → P q → w'.heap[q]? = w.heap[q]?) : ∀ {d T b : Nat} {s : Bool}, Sf P w d T b s → Sf P w' d T b s := by
  have c : ∀ b o v, P b → w.cell? ⟨b, o, none⟩ = some v → w'.cell? ⟨b, o, none⟩ = some v := fun b o v hp h => (World.cell?_of_block (a := ⟨b, o, none⟩) (e b (block_lt_of_cell h) hp)).trans h
  have leaf : ∀ {T b : Nat} {s : Bool}, (leafT T ∧ s = true) ∨ (noT T ∧ s = false) ∨ (T = 228 ∧ P b ∧ ∃ a n c, w.cell? ⟨b, 0, none⟩ = some (.slice a n c) ∧ s = decide (n = 0)) → (leafT T ∧ s = true) ∨ (noT T ∧ s = false) ∨ (T = 228 ∧ P b ∧ ∃ a n c, w'.cell? ⟨b, 0, none⟩ = some (.slice a n c) ∧ s = decide (n = 0)) := by
    intro T b s h
    rcases h with h | h | ⟨h1, h2, a, n, c', h3, h4⟩
    · exact .inl h
    · exact .inr (.inl h)
    · exact .inr (.inr ⟨h1, h2, a, n, c', c _ _ _ h2 h3, h4⟩)
  intro d
  induction d with
  | zero => intro T b s h; exact leaf h
  | succ d ih =>
    intro T b s h
    rcases h with h | ⟨h1, h2, a, n, c', S, h3, h4, h5, h6⟩
    · exact .inl (leaf h)
    · refine .inr ⟨h1, h2, a, n, c', S, c _ _ _ h2 h3, h4, fun h0 => ?_, h6⟩
      obtain ⟨G, rfl, hG, hh⟩ := h5 h0
      refine ⟨G, rfl, hG, fun i hi => ?_⟩
      obtain ⟨Ti, bi, l, g1, g2, g3⟩ := hh i hi
      exact ⟨Ti, bi, l, c _ _ _ hG g1, c _ _ _ hG g2, ih g3⟩
theorem Sf.below {P : Nat → Prop} {w w' : World} {d T b : Nat} {s : Bool} (h : Sf P w d T b s) (hb : Below w.heap.size w w') : Sf P w' d T b s := h.keep (fun q hq _ => hb.block q hq)
theorem Sf.imp {P Q : Nat → Prop} {w : World} (hpq : ∀ q, q < w.heap.size → P q → Q q) : ∀ {d T b : Nat} {s : Bool}, Sf P w d T b s → Sf Q w d T b s := by
  have leaf : ∀ {T b : Nat} {s : Bool}, (leafT T ∧ s = true) ∨ (noT T ∧ s = false) ∨ (T = 228 ∧ P b ∧ ∃ a n c, w.cell? ⟨b, 0, none⟩ = some (.slice a n c) ∧ s = decide (n = 0)) → (leafT T ∧ s = true) ∨ (noT T ∧ s = false) ∨ (T = 228 ∧ Q b ∧ ∃ a n c, w.cell? ⟨b, 0, none⟩ = some (.slice a n c) ∧ s = decide (n = 0)) := by
    intro T b s h
    rcases h with h | h | ⟨h1, h2, a, n, c', h3, h4⟩
    · exact .inl h
    · exact .inr (.inl h)
    · exact .inr (.inr ⟨h1, hpq b (block_lt_of_cell h3) h2, a, n, c', h3, h4⟩)
  intro d
  induction d with
  | zero => intro T b s h; exact leaf h
  | succ d ih =>
    intro T b s h
    rcases h with h | ⟨h1, h2, a, n, c', S, h3, h4, h5, h6⟩
    · exact .inl (leaf h)
    · refine .inr ⟨h1, hpq b (block_lt_of_cell h3) h2, a, n, c', S, h3, h4, fun h0 => ?_, h6⟩
      obtain ⟨G, rfl, hG, hh⟩ := h5 h0
      obtain ⟨_, _, _, g1, _⟩ := hh 0 h0
      refine ⟨G, rfl, hpq G (block_lt_of_cell g1) hG, fun i hi => ?_⟩
      obtain ⟨Ti, bi, l, g1, g2, g3⟩ := hh i hi
      exact ⟨Ti, bi, l, g1, g2, ih g3⟩
def SafeP (w : World) (s : Bool) (e : Ending) (w' : World) : Prop := e = .returned (.bool s) ∧ Below w.heap.size w w'
set_option maxRecDepth 100000 in
set_option maxHeartbeats 1000000 in
theorem leaf35 (w : World) (T b : Nat) (s : Bool) (l : Int) (h : (leafT T ∧ s = true) ∨ (noT T ∧ s = false)) : Calls Try.prog 35 #[.agg #[.iface T (.pointer (some ⟨b, 0, none⟩)), .int .i32 l]] w (SafeP w s) := by
  rcases h with ⟨h, rfl⟩ | ⟨h, rfl⟩
  · rcases h with rfl | rfl | rfl | rfl | rfl | rfl
    all_goals
      go_enter Try.func35, Try.ntmps35
      go_wp2_with fail
      go_ret
      exact ⟨rfl, (Below.refl _ _).alloc (Nat.le_refl _) _⟩
  · rcases h with rfl | rfl | rfl | rfl
    all_goals
      go_enter Try.func35, Try.ntmps35
      go_wp2_with fail
      go_ret
      exact ⟨rfl, (Below.refl _ _).alloc (Nat.le_refl _) _⟩
set_option maxRecDepth 100000 in
set_option maxHeartbeats 1000000 in
theorem obj35 (w : World) (b : Nat) (a : Option Addr) (n c : Nat) (s : Bool) (l : Int) (hc : w.cell? ⟨b, 0, none⟩ = some (.slice a n c)) (hs : s = decide (n = 0)) : Calls Try.prog 35 #[.agg #[.iface 228 (.pointer (some ⟨b, 0, none⟩)), .int .i32 l]] w (SafeP w s) := by
  have hb := block_lt_of_cell hc
  simp only at hb
  have hne : b ≠ w.heap.size := by omega
  by_cases h0 : n = 0
  · subst h0
    subst hs
    go_enter Try.func35, Try.ntmps35
    go_wp2_with fail
    go_ret
    exact ⟨rfl, (Below.refl _ _).alloc (Nat.le_refl _) _⟩
  · have e0 : ((n : Int) == 0) = false := by simp; omega
    have hs' : s = false := by simp [hs, h0]
    clear hs
    subst hs'
    clear h0
    go_enter Try.func35, Try.ntmps35
    go_wp2_with fail
    go_ret
    exact ⟨rfl, (Below.refl _ _).alloc (Nat.le_refl _) _⟩
set_option maxRecDepth 100000 in
set_option maxHeartbeats 2000000 in
theorem arr35 (P : Nat → Prop) (d : Nat) (ih : ∀ (w : World) (T b : Nat) (s : Bool) (l : Int), Sf P w d T b s → Calls Try.prog 35 #[.agg #[.iface T (.pointer (some ⟨b, 0, none⟩)), .int .i32 l]] w (SafeP w s))
    (w : World) (b : Nat) (a : Option Addr) (n c : Nat) (S : Nat → Bool) (s : Bool) (l : Int) (hc : w.cell? ⟨b, 0, none⟩ = some (.slice a n c)) (hn : n ≤ 65536)
    (hr : 0 < n → ∃ G, a = some ⟨G, 0, none⟩ ∧ P G ∧ ∀ i, i < n → ∃ (Ti bi : Nat) (l : Int), w.cell? ⟨G, i * 2, none⟩ = some (.iface Ti (.pointer (some ⟨bi, 0, none⟩))) ∧ w.cell? ⟨G, i * 2 + 1, none⟩ = some (.int .i32 l) ∧ Sf P w d Ti bi (S i)) (hs : s = true ↔ ∀ i, i < n → S i = true) :
    Calls Try.prog 35 #[.agg #[.iface 200 (.pointer (some ⟨b, 0, none⟩)), .int .i32 l]] w (SafeP w s) := by
  have hb := block_lt_of_cell hc
  simp only at hb
  have hne : b ≠ w.heap.size := by omega
  have HR := Lib.hid hr
  have HS := Lib.hid hs
  clear hr hs
  go_enter Try.func35, Try.ntmps35
  go_wp2_with fail
  clear hc hb hne
  go_loopw [41] (fun i wr => ∃ k : Nat, k ≤ n ∧ i = .int .i64 k ∧ Below w.heap.size w wr ∧ ∀ j, j < k → S j = true) (fun i _ => n - (intOf i).toNat)
  case atStart => exact ⟨0, by omega, rfl, (Below.refl _ _).alloc (Nat.le_refl _) _, fun j hj => by omega⟩
  case round =>
    obtain ⟨k, hk, rfl, hB, hall⟩ := hrel
    rename World => wr
    have HB := Lib.hid hB
    have HA := Lib.hid hall
    clear hB hall
    by_cases hlt : k < n
    · obtain ⟨G, rfl, hG, hh⟩ := HR.out (by omega)
      obtain ⟨Ti, bi, l', g1, g2, g3⟩ := hh k hlt
      have hGl := block_lt_of_cell g1
      simp only at hGl
      have c1 := (HB.out.cell (p := ⟨G, k * 2, none⟩) hGl).trans g1
      have c2 := (HB.out.cell (p := ⟨G, k * 2 + 1, none⟩) hGl).trans g2
      have hGw : G < wr.heap.size := Nat.lt_of_lt_of_le hGl HB.out.size
      have hGn : G ≠ wr.heap.size := by omega
      have HF := Lib.hid g3
      clear hh g1 g2 g3 hG hGl
      go_wp2_with fail
      refine (ih _ Ti bi (S k) l' ((HF.out.below HB.out).below ((Below.refl _ _).alloc (Nat.le_refl _) _))).mono ?_
      rintro e w2 ⟨rfl, hb⟩
      have HB2 : Hid (Below w.heap.size w w2) := Lib.hid ((HB.out.trans (((Below.refl _ _).alloc (Nat.le_refl _) _).mono HB.out.size)).trans (hb.mono (by have := HB.out.size; simp; omega)))
      clear hb c1 c2
      cases hS : S k
      · have HX := Lib.hid hS
        clear hS
        go_simp
        go_wp2_with fail
        go_ret
        refine ⟨?_, HB2.out⟩
        have : s = false := by
          cases s
          · rfl
          · have := HS.out.1 rfl k hlt; rw [HX.out] at this; cases this
        rw [this]; rfl
      · have HX := Lib.hid hS
        clear hS
        go_simp
        go_wp2_with fail
        go_roundw
        case rel => exact ⟨k + 1, by omega, by go_num, HB2.out, fun j hj => by
          by_cases e : j = k
          · subst e; exact HX.out
          · exact HA.out j (by omega)⟩
        case measure => simp [intOf]; omega
    · obtain rfl : k = n := by omega
      go_wp2_with fail
      go_ret
      refine ⟨?_, HB.out⟩
      have : s = true := HS.out.2 (fun i hi => HA.out i hi)
      rw [this]; rfl
theorem safe35 (P : Nat → Prop) (d : Nat) : ∀ (w : World) (T b : Nat) (s : Bool) (l : Int), Sf P w d T b s → Calls Try.prog 35 #[.agg #[.iface T (.pointer (some ⟨b, 0, none⟩)), .int .i32 l]] w (SafeP w s) := by
  have leaf : ∀ (w : World) (T b : Nat) (s : Bool) (l : Int), (leafT T ∧ s = true) ∨ (noT T ∧ s = false) ∨ (T = 228 ∧ P b ∧ ∃ a n c, w.cell? ⟨b, 0, none⟩ = some (.slice a n c) ∧ s = decide (n = 0)) → Calls Try.prog 35 #[.agg #[.iface T (.pointer (some ⟨b, 0, none⟩)), .int .i32 l]] w (SafeP w s) := by
    intro w T b s l h
    rcases h with h | h | ⟨rfl, h2, a, n, c', h3, h4⟩
    · exact leaf35 w T b s l (.inl h)
    · exact leaf35 w T b s l (.inr h)
    · exact obj35 w b a n c' s l h3 h4
  induction d with
  | zero => exact fun w T b s l h => leaf w T b s l h
  | succ d ih =>
    intro w T b s l h
    rcases h with h | ⟨rfl, h2, a, n, c', S, h3, h4, h5, h6⟩
    · exact leaf w T b s l h
    · exact arr35 P d ih w b a n c' S s l h3 h4 h5 h6
end Go.Proofs.Ythhlioepgfjknaa.sf
