/-
  The line tracker's state in memory, and what keeps it sound.
-/
import Derived.Test.YtfnicbfdfceagaaFmtLu
import Derived.WalkKit
import Derived.ProofKit
import Derived.Below
import Derived.ChangeOld
import Derived.OpenShut
import Derived.Lib.Hide
import Derived.WalkLawsBesides
import Derived.Deep.OwnRows
import Derived.Laws.Rows
import Derived.WalkSpells
import Derived.Laws.Tables
import Derived.WalkSmall
import Derived.Outline
import Derived.BigQuiet
import Derived.Deep.QuietTactic
import Derived.Deep.RegionLaw
import Derived.Deep.CutBlock
import Derived.IntWalk
import Derived.OwnWalk
import Derived.Deep.WholeRow
import Derived.Deep.RegionWith
import Derived.Deep.DeepCutAuto
namespace Go.Proofs.YtfnicbfdfceagaaFmt.lg
open Go.ChangeShapes Go.WideShapes Go.ChangeAt Go.RowKit Go.Deep
set_option linter.unusedVariables false
set_option linter.unusedSimpArgs false
set_option maxRecDepth 100000
set_option maxHeartbeats 4000000
/-- But for the blocks F, what was there is as it was. -/
structure Touch (F : Nat → Prop) (w w' : World) : Prop where
  os : w'.os = w.os
  tape : w'.tape = w.tape
  output : w'.output = w.output
  size : w.heap.size ≤ w'.heap.size
  block : ∀ k, k < w.heap.size → ¬ F k → w'.heap[k]? = w.heap[k]?
theorem Touch.refl (F : Nat → Prop) (w : World) : Touch F w w := ⟨rfl, rfl, rfl, Nat.le_refl _, fun _ _ _ => rfl⟩
theorem Touch.trans {F : Nat → Prop} {a b c : World} (h : Touch F a b) (k : Touch F b c) : Touch F a c :=
  ⟨k.os.trans h.os, k.tape.trans h.tape, k.output.trans h.output, Nat.le_trans h.size k.size, fun i hi hn => (k.block i (Nat.lt_of_lt_of_le hi h.size) hn).trans (h.block i hi hn)⟩
theorem Touch.mono {F G : Nat → Prop} {w w' : World} (h : Touch F w w') (e : ∀ k, k < w.heap.size → F k → G k) : Touch G w w' := ⟨h.os, h.tape, h.output, h.size, fun k hk hn => h.block k hk fun f => hn (e k hk f)⟩
theorem Touch.drew {F : Nat → Prop} {a w : World} (h : Touch F a w) : Touch F a w.drew := ⟨h.os, h.tape, h.output, h.size, h.block⟩
theorem Touch.alloc {F : Nat → Prop} {a w : World} (h : Touch F a w) (o : Obj) : Touch F a (w.alloc o) :=
  h.trans ⟨rfl, rfl, rfl, by simp, fun k hk _ => Below.heap_alloc _ _ _ hk⟩
theorem Touch.setCell {F : Nat → Prop} {a w : World} (h : Touch F a w) (p : Addr) (hp : p.block < a.heap.size → F p.block) (u : Value) : Touch F a (w.setCell p u) :=
  ⟨h.os, h.tape, h.output, by rw [show (w.setCell p u).heap.size = w.heap.size by simp [World.setCell]]; exact h.size, fun k hk hn => (Below.heap_setCell _ _ _ _ (fun e => hn (by rw [e]; exact hp (by rw [← e]; exact hk)))).trans (h.block k hk hn)⟩
theorem Touch.grown {F : Nat → Prop} {a w w' : World} {row : Option Nat} (h : Touch F a w) (hg : w.grownBy w' row) (hr : ∀ k, row = some k → k < a.heap.size → F k) : Touch F a w' :=
  ⟨hg.os.trans h.os, hg.tape.trans h.tape, hg.output.trans h.output, Nat.le_trans h.size hg.size, fun k hk hn => (hg.block k (Nat.lt_of_lt_of_le hk h.size) (fun e => hn (hr k e.symm hk))).trans (h.block k hk hn)⟩
theorem Touch.below {F : Nat → Prop} {w w' : World} (h : Touch F w w') {B : Nat} (hB : B ≤ w.heap.size) (hF : ∀ k, F k → B ≤ k) : Below B w w' :=
  ⟨h.os, h.tape, h.output, h.size, fun k hk => h.block k (by omega) (fun f => by have := hF k f; omega)⟩
theorem Touch.of_below {w w' : World} (h : Below w.heap.size w w') (F : Nat → Prop) : Touch F w w' := ⟨h.os, h.tape, h.output, h.size, fun k hk _ => h.block k hk⟩
theorem Touch.then {F : Nat → Prop} {a w w' : World} (h : Touch F a w) (hb : Below w.heap.size w w') : Touch F a w' := ⟨hb.os.trans h.os, hb.tape.trans h.tape, hb.output.trans h.output, Nat.le_trans h.size hb.size, fun k hk hn => (hb.block k (Nat.lt_of_lt_of_le hk h.size)).trans (h.block k hk hn)⟩
theorem tdN {F : Nat → Prop} {a w : World} (h : Touch F a w) (q : Nat) : Touch F a (w.drewN q) := ⟨h.os, h.tape, h.output, h.size, h.block⟩
abbrev str0 : Value := .string ByteArray.empty
abbrev ptr (b o : Nat) : Value := .pointer (some ⟨b, o, none⟩)
/-- A tracker over the text s, at place o of block b. -/
structure Tk (w : World) (b o : Nat) (s : ByteArray) (off : Nat) (line : Int) (ls le : Nat) (hs he : Bool) : Prop where
  c0 : w.cell? ⟨b, o, none⟩ = some (.string s)
  c1 : w.cell? ⟨b, o + 1, none⟩ = some (str0)
  c2 : w.cell? ⟨b, o + 2, none⟩ = some (str0)
  c3 : w.cell? ⟨b, o + 3, none⟩ = some (.int .i32 off)
  c4 : w.cell? ⟨b, o + 4, none⟩ = some (.int .i32 line)
  c5 : w.cell? ⟨b, o + 5, none⟩ = some (.int .i32 ls)
  c6 : w.cell? ⟨b, o + 6, none⟩ = some (.int .i32 le)
  c7 : w.cell? ⟨b, o + 7, none⟩ = some (.bool hs)
  c8 : w.cell? ⟨b, o + 8, none⟩ = some (.bool he)
  c9 : w.cell? ⟨b, o + 9, none⟩ = some (.bool true)
  fz : ∀ q, w.frozen? ⟨b, q, none⟩ = false
section
variable {w : World} {b o : Nat} {s : ByteArray} {off : Nat} {line : Int} {ls le : Nat} {hs he : Bool}
theorem Tk.of_block {w' : World} (t : Tk w b o s off line ls le hs he) (e : w'.heap[b]? = w.heap[b]?) : Tk w' b o s off line ls le hs he := by
  have c : ∀ q, w'.cell? ⟨b, q, none⟩ = w.cell? ⟨b, q, none⟩ := fun q => World.cell?_of_block (a := ⟨b, q, none⟩) e
  exact ⟨(c _).trans t.c0, (c _).trans t.c1, (c _).trans t.c2, (c _).trans t.c3, (c _).trans t.c4, (c _).trans t.c5, (c _).trans t.c6, (c _).trans t.c7, (c _).trans t.c8, (c _).trans t.c9, fun q => (World.frozen?_of_block (a := ⟨b, q, none⟩) e).trans (t.fz q)⟩
theorem Tk.lt (t : Tk w b o s off line ls le hs he) : b < w.heap.size := block_lt_of_cell t.c0
theorem off_ne {b p q : Nat} (h : p ≠ q) : (⟨b, p, none⟩ : Addr) ≠ ⟨b, q, none⟩ := fun e => h (by have := congrArg Addr.off e; simpa using this)
theorem Tk.set_off (t : Tk w b o s off line ls le hs he) (x : Nat) : Tk (w.setCell ⟨b, o + 3, none⟩ (.int .i32 x)) b o s x line ls le hs he := ⟨(World.cell?_setCell_other _ _ _ _ (off_ne (by omega))).trans t.c0, (World.cell?_setCell_other _ _ _ _ (off_ne (by omega))).trans t.c1, (World.cell?_setCell_other _ _ _ _ (off_ne (by omega))).trans t.c2, World.cell?_setCell_same _ _ _ t.c3, (World.cell?_setCell_other _ _ _ _ (off_ne (by omega))).trans t.c4, (World.cell?_setCell_other _ _ _ _ (off_ne (by omega))).trans t.c5, (World.cell?_setCell_other _ _ _ _ (off_ne (by omega))).trans t.c6, (World.cell?_setCell_other _ _ _ _ (off_ne (by omega))).trans t.c7, (World.cell?_setCell_other _ _ _ _ (off_ne (by omega))).trans t.c8, (World.cell?_setCell_other _ _ _ _ (off_ne (by omega))).trans t.c9, fun q => by rw [World.frozen?_setCell]; exact t.fz q⟩
theorem Tk.set_line (t : Tk w b o s off line ls le hs he) (x : Int) : Tk (w.setCell ⟨b, o + 4, none⟩ (.int .i32 x)) b o s off x ls le hs he := ⟨(World.cell?_setCell_other _ _ _ _ (off_ne (by omega))).trans t.c0, (World.cell?_setCell_other _ _ _ _ (off_ne (by omega))).trans t.c1, (World.cell?_setCell_other _ _ _ _ (off_ne (by omega))).trans t.c2, (World.cell?_setCell_other _ _ _ _ (off_ne (by omega))).trans t.c3, World.cell?_setCell_same _ _ _ t.c4, (World.cell?_setCell_other _ _ _ _ (off_ne (by omega))).trans t.c5, (World.cell?_setCell_other _ _ _ _ (off_ne (by omega))).trans t.c6, (World.cell?_setCell_other _ _ _ _ (off_ne (by omega))).trans t.c7, (World.cell?_setCell_other _ _ _ _ (off_ne (by omega))).trans t.c8, (World.cell?_setCell_other _ _ _ _ (off_ne (by omega))).trans t.c9, fun q => by rw [World.frozen?_setCell]; exact t.fz q⟩
theorem Tk.set_ls (t : Tk w b o s off line ls le hs he) (x : Nat) : Tk (w.setCell ⟨b, o + 5, none⟩ (.int .i32 x)) b o s off line x le hs he := ⟨(World.cell?_setCell_other _ _ _ _ (off_ne (by omega))).trans t.c0, (World.cell?_setCell_other _ _ _ _ (off_ne (by omega))).trans t.c1, (World.cell?_setCell_other _ _ _ _ (off_ne (by omega))).trans t.c2, (World.cell?_setCell_other _ _ _ _ (off_ne (by omega))).trans t.c3, (World.cell?_setCell_other _ _ _ _ (off_ne (by omega))).trans t.c4, World.cell?_setCell_same _ _ _ t.c5, (World.cell?_setCell_other _ _ _ _ (off_ne (by omega))).trans t.c6, (World.cell?_setCell_other _ _ _ _ (off_ne (by omega))).trans t.c7, (World.cell?_setCell_other _ _ _ _ (off_ne (by omega))).trans t.c8, (World.cell?_setCell_other _ _ _ _ (off_ne (by omega))).trans t.c9, fun q => by rw [World.frozen?_setCell]; exact t.fz q⟩
theorem Tk.set_le (t : Tk w b o s off line ls le hs he) (x : Nat) : Tk (w.setCell ⟨b, o + 6, none⟩ (.int .i32 x)) b o s off line ls x hs he := ⟨(World.cell?_setCell_other _ _ _ _ (off_ne (by omega))).trans t.c0, (World.cell?_setCell_other _ _ _ _ (off_ne (by omega))).trans t.c1, (World.cell?_setCell_other _ _ _ _ (off_ne (by omega))).trans t.c2, (World.cell?_setCell_other _ _ _ _ (off_ne (by omega))).trans t.c3, (World.cell?_setCell_other _ _ _ _ (off_ne (by omega))).trans t.c4, (World.cell?_setCell_other _ _ _ _ (off_ne (by omega))).trans t.c5, World.cell?_setCell_same _ _ _ t.c6, (World.cell?_setCell_other _ _ _ _ (off_ne (by omega))).trans t.c7, (World.cell?_setCell_other _ _ _ _ (off_ne (by omega))).trans t.c8, (World.cell?_setCell_other _ _ _ _ (off_ne (by omega))).trans t.c9, fun q => by rw [World.frozen?_setCell]; exact t.fz q⟩
theorem Tk.set_hs (t : Tk w b o s off line ls le hs he) (x : Bool) : Tk (w.setCell ⟨b, o + 7, none⟩ (.bool x)) b o s off line ls le x he := ⟨(World.cell?_setCell_other _ _ _ _ (off_ne (by omega))).trans t.c0, (World.cell?_setCell_other _ _ _ _ (off_ne (by omega))).trans t.c1, (World.cell?_setCell_other _ _ _ _ (off_ne (by omega))).trans t.c2, (World.cell?_setCell_other _ _ _ _ (off_ne (by omega))).trans t.c3, (World.cell?_setCell_other _ _ _ _ (off_ne (by omega))).trans t.c4, (World.cell?_setCell_other _ _ _ _ (off_ne (by omega))).trans t.c5, (World.cell?_setCell_other _ _ _ _ (off_ne (by omega))).trans t.c6, World.cell?_setCell_same _ _ _ t.c7, (World.cell?_setCell_other _ _ _ _ (off_ne (by omega))).trans t.c8, (World.cell?_setCell_other _ _ _ _ (off_ne (by omega))).trans t.c9, fun q => by rw [World.frozen?_setCell]; exact t.fz q⟩
theorem Tk.set_he (t : Tk w b o s off line ls le hs he) (x : Bool) : Tk (w.setCell ⟨b, o + 8, none⟩ (.bool x)) b o s off line ls le hs x := ⟨(World.cell?_setCell_other _ _ _ _ (off_ne (by omega))).trans t.c0, (World.cell?_setCell_other _ _ _ _ (off_ne (by omega))).trans t.c1, (World.cell?_setCell_other _ _ _ _ (off_ne (by omega))).trans t.c2, (World.cell?_setCell_other _ _ _ _ (off_ne (by omega))).trans t.c3, (World.cell?_setCell_other _ _ _ _ (off_ne (by omega))).trans t.c4, (World.cell?_setCell_other _ _ _ _ (off_ne (by omega))).trans t.c5, (World.cell?_setCell_other _ _ _ _ (off_ne (by omega))).trans t.c6, (World.cell?_setCell_other _ _ _ _ (off_ne (by omega))).trans t.c7, World.cell?_setCell_same _ _ _ t.c8, (World.cell?_setCell_other _ _ _ _ (off_ne (by omega))).trans t.c9, fun q => by rw [World.frozen?_setCell]; exact t.fz q⟩
end
/-- The tracker's cells that turn are the only ones of block b that have turned. -/
structure Tch (b o : Nat) (w w' : World) : Prop where
  t : Touch (fun k => k = b) w w'
  c : ∀ q, q < o + 3 ∨ o + 9 ≤ q → w'.cell? ⟨b, q, none⟩ = w.cell? ⟨b, q, none⟩
  z : ∀ q, w'.frozen? ⟨b, q, none⟩ = w.frozen? ⟨b, q, none⟩
theorem Tch.refl (b o : Nat) (w : World) : Tch b o w w := ⟨Touch.refl _ w, fun _ _ => rfl, fun _ => rfl⟩
theorem Tch.trans {b o : Nat} {x y z : World} (h : Tch b o x y) (k : Tch b o y z) : Tch b o x z := ⟨h.t.trans k.t, fun q h1 => (k.c q h1).trans (h.c q h1), fun q => (k.z q).trans (h.z q)⟩
theorem Tch.of {b o : Nat} {w w' : World} (h : Touch (fun _ => False) w w') (hb : b < w.heap.size) : Tch b o w w' :=
  ⟨h.mono fun _ _ h => h.elim, fun q _ => World.cell?_of_block (a := ⟨b, q, none⟩) (h.block b hb id), fun q => World.frozen?_of_block (a := ⟨b, q, none⟩) (h.block b hb id)⟩
theorem Tch.set {b o : Nat} {w w' : World} (h : Tch b o w w') (q : Nat) (h1 : 3 ≤ q) (h2 : q < 9) (v : Value) : Tch b o w (w'.setCell ⟨b, o + q, none⟩ v) :=
  ⟨h.t.setCell ⟨b, o + q, none⟩ (fun _ => rfl) _, fun p hp => (World.cell?_setCell_other _ _ _ _ (off_ne (by omega))).trans (h.c p hp), fun p => by rw [World.frozen?_setCell]; exact h.z p⟩
theorem Tch.below {b o : Nat} {w w' w'' : World} (h : Tch b o w w') (hb : b < w.heap.size) (k : Below w'.heap.size w' w'') : Tch b o w w'' :=
  h.trans (Tch.of (Touch.of_below k _) (Nat.lt_of_lt_of_le hb h.t.size))
abbrev Tabs (w : World) : Prop := Lib.Utf8Tabs 0 1 w
theorem Tabs.touch {F : Nat → Prop} {w w' : World} (h : Tabs w) (t : Touch F w w') (h0 : ¬ F 0) (h1 : ¬ F 1) : Tabs w' := by
  have z : ∀ {g c : Nat} {v : Value}, (g = 0 ∨ g = 1) → w.cell? ⟨g, c, none⟩ = some v → w'.cell? ⟨g, c, none⟩ = some v := fun {g c v} hg hc => by
    have hlt := block_lt_of_cell hc
    rw [World.cell?_of_block (a := ⟨g, c, none⟩) (t.block g hlt (by rcases hg with rfl | rfl; exact h0; exact h1))]
    exact hc
  exact ⟨fun c hc => z (Or.inl rfl) (h.1 c hc), fun i hi => ⟨z (Or.inr rfl) (h.2 i hi).1, z (Or.inr rfl) (h.2 i hi).2⟩⟩
theorem Tabs.tch {b o : Nat} {w w' : World} (h : Tabs w) (t : Tch b o w w') (hb : 2 ≤ b) : Tabs w' := h.touch t.t (by omega) (by omega)
/-- What the tracker's fields mean. -/
def Good (s : ByteArray) (off ls le : Nat) (hs he : Bool) : Prop :=
  off ≤ s.size ∧ (hs = true → ls ≤ off ∧ (ls = 0 ∨ EndL s ls)) ∧ (he = true → off ≤ le ∧ le ≤ s.size ∧ (le = s.size ∨ AtL s le))
theorem Good.fwdNL {s : ByteArray} {off ls le k : Nat} {hs he : Bool} (h : Good s off ls le hs he) (hk : off + k ≤ s.size) (e : EndL s (off + k)) (x : Nat) : Good s (off + k) (off + k) x true false :=
  ⟨hk, fun _ => ⟨Nat.le_refl _, Or.inr e⟩, (fun h => by cases h)⟩
theorem Good.fwdNo {s : ByteArray} {off ls le k : Nat} {hs he : Bool} (h : Good s off ls le hs he) (ho : off < s.size) (hk : off + k ≤ s.size) (n : ¬ AtL s off) (j : ∀ le, off < le → AtL s le → off + k ≤ le) : Good s (off + k) ls le hs he :=
  ⟨hk, fun a => ⟨by have := (h.2.1 a).1; omega, (h.2.1 a).2⟩, fun a => by
    obtain ⟨h1, h2, h3⟩ := h.2.2 a
    refine ⟨?_, h2, h3⟩
    rcases h3 with h3 | h3
    · omega
    · have : off ≠ le := fun e => n (e ▸ h3)
      exact j le (by omega) h3⟩
theorem Good.bwdNL {s : ByteArray} {off ls le k : Nat} {hs he : Bool} (h : Good s off ls le hs he) (e : AtL s (off - k)) (x : Nat) : Good s (off - k) x (off - k) false true :=
  ⟨by have := h.1; omega, (fun h => by cases h), fun _ => ⟨Nat.le_refl _, by have := h.1; omega, Or.inr e⟩⟩
theorem Good.bwdNo {s : ByteArray} {off ls le k : Nat} {hs he : Bool} (h : Good s off ls le hs he) (n : ¬ EndL s off) (h0 : 0 < off) (j : ∀ ls, EndL s ls → ls < off → ls ≤ off - k) : Good s (off - k) ls le hs he :=
  ⟨by have := h.1; omega, fun a => by
    obtain ⟨h1, h2⟩ := h.2.1 a
    refine ⟨?_, h2⟩
    rcases h2 with h2 | h2
    · omega
    · have : ls ≠ off := fun e => n (e ▸ h2)
      exact j ls h2 (by omega), fun a => by obtain ⟨h1, h2, h3⟩ := h.2.2 a; exact ⟨by omega, h2, h3⟩⟩
end Go.Proofs.YtfnicbfdfceagaaFmt.lg
