/-
  The Joiner: what AddString, AddBytes, Length, LastByte do to a Joiner's memory.
-/
import Derived.Test.YthcfdoaeefnemaaRows
import Derived.WalkKit
import Derived.ProofKit
import Derived.OpenShut
import Derived.ShutString
import Derived.Lib.Hide
import Derived.WalkLawsBesides
import Derived.Deep.OwnRows
import Derived.Laws.Rows
import Derived.OneCell
import Derived.Below
import Derived.WalkSpells
import Derived.WalkSmall
import Derived.BigQuiet
import Derived.Outline
import Derived.Deep.AppendLies
import Derived.Deep.RegionLaw
namespace Go.Proofs.Ythcfdoaeefnemaa.jn
open Go.ChangeShapes Go.WideShapes Go.ChangeAt Go.RowKit Go.Deep
set_option linter.unusedVariables false

theorem info47 : (Try.prog.info? 47).map (fun i => (i.zero.map (·.cells), i.size, i.bytes)) = some (some #[.string ByteArray.empty, .int .u32 0], 2, 24) := by kernel_rfl
theorem info49 : (Try.prog.info? 49).map (fun i => (i.zero.map (·.cells), i.size, i.bytes)) = some (some #[.slice none 0 0, .int .u32 0], 2, 32) := by kernel_rfl
theorem parts_of {T : TypeId} {cs : Array Value} {n b : Nat} (h : (Try.prog.info? T).map (fun i => (i.zero.map (·.cells), i.size, i.bytes)) = some (some cs, n, b)) :
    ∃ i z, Try.prog.info? T = some i ∧ i.zero = some z ∧ z.cells = cs ∧ i.size = n ∧ i.bytes = b := by
  obtain ⟨i, hi, hz⟩ := Option.map_eq_some_iff.1 h
  simp only [Prod.mk.injEq] at hz
  obtain ⟨h1, h2, h3⟩ := hz
  obtain ⟨z, hz, hzc⟩ := Option.map_eq_some_iff.1 h1
  exact ⟨i, z, hi, hz, hzc, h2, h3⟩

/-- But for the blocks F, what was there is as it was. -/
structure Touch (F : Nat → Prop) (w w' : World) : Prop where
  os : w'.os = w.os
  tape : w'.tape = w.tape
  output : w'.output = w.output
  size : w.heap.size ≤ w'.heap.size
  block : ∀ k, k < w.heap.size → ¬ F k → w'.heap[k]? = w.heap[k]?
theorem Touch.refl (F : Nat → Prop) (w : World) : Touch F w w := ⟨rfl, rfl, rfl, Nat.le_refl _, fun _ _ _ => rfl⟩
theorem Touch.trans {F : Nat → Prop} {a b c : World} (h : Touch F a b) (k : Touch F b c) : Touch F a c :=
  ⟨k.os.trans h.os, k.tape.trans h.tape, k.output.trans h.output, Nat.le_trans h.size k.size, fun i hi hn => (k.block i (Nat.lt_of_lt_of_le hi h.size) hn).trans (h.block i hi hn)⟩
theorem Touch.mono {F G : Nat → Prop} {w w' : World} (h : Touch F w w') (e : ∀ k, F k → G k) : Touch G w w' := ⟨h.os, h.tape, h.output, h.size, fun k hk hn => h.block k hk fun f => hn (e k f)⟩
theorem Touch.drew {F : Nat → Prop} {a w : World} (h : Touch F a w) : Touch F a w.drew := ⟨h.os, h.tape, h.output, h.size, h.block⟩
theorem Touch.alloc {F : Nat → Prop} {a w : World} (h : Touch F a w) (o : Obj) : Touch F a (w.alloc o) :=
  h.trans ⟨rfl, rfl, rfl, by simp, fun k hk _ => Below.heap_alloc _ _ _ hk⟩
theorem Touch.setCell {F : Nat → Prop} {a w : World} (h : Touch F a w) (p : Addr) (hp : F p.block) (u : Value) : Touch F a (w.setCell p u) :=
  h.trans ⟨rfl, rfl, rfl, by simp [World.setCell], fun k _ hn => Below.heap_setCell _ _ _ _ (fun e => hn (by rw [e]; exact hp))⟩
theorem Touch.grown {F : Nat → Prop} {a w w' : World} {row : Option Nat} (h : Touch F a w) (hg : w.grownBy w' row) (hr : ∀ k, row = some k → k < a.heap.size → F k) : Touch F a w' :=
  ⟨hg.os.trans h.os, hg.tape.trans h.tape, hg.output.trans h.output, Nat.le_trans h.size hg.size, fun k hk hn => (hg.block k (Nat.lt_of_lt_of_le hk h.size) (fun e => hn (hr k e.symm hk))).trans (h.block k hk hn)⟩
theorem Touch.below {F : Nat → Prop} {w w' : World} (h : Touch F w w') {B : Nat} (hB : B ≤ w.heap.size) (hF : ∀ k, F k → B ≤ k) : Below B w w' :=
  ⟨h.os, h.tape, h.output, h.size, fun k hk => h.block k (by omega) (fun f => by have := hF k f; omega)⟩
theorem touch_of_below {w w' : World} (h : Below w.heap.size w w') (F : Nat → Prop) : Touch F w w' := ⟨h.os, h.tape, h.output, h.size, fun k hk _ => h.block k hk⟩

/-- The cells of a Joiner. -/
def JB (w : World) (g : Nat) (sv bv : Value) (L last : Int) : Prop := w.heap[g]? = some (.cells #[sv, bv, .int .u32 L, .int .u8 last] 30 (0, 0))
theorem JB.cells {w : World} {g : Nat} {sv bv : Value} {L last : Int} (h : JB w g sv bv L last) :
    w.cell? ⟨g, 0, none⟩ = some sv ∧ w.cell? ⟨g, 1, none⟩ = some bv ∧ w.cell? ⟨g, 2, none⟩ = some (.int .u32 L) ∧ w.cell? ⟨g, 3, none⟩ = some (.int .u8 last) :=
  ⟨cell_of_row w g 0 _ _ _ h, cell_of_row w g 1 _ _ _ h, cell_of_row w g 2 _ _ _ h, cell_of_row w g 3 _ _ _ h⟩
theorem JB.frozen {w : World} {g : Nat} {sv bv : Value} {L last : Int} (h : JB w g sv bv L last) (j : Nat) : w.frozen? ⟨g, j, none⟩ = false := frozen_of_row w g j _ _ h
theorem JB.lt {w : World} {g : Nat} {sv bv : Value} {L last : Int} (h : JB w g sv bv L last) : g < w.heap.size := lt_of_block h
theorem JB.set0 {w : World} {g : Nat} {sv bv : Value} {L last : Int} (h : JB w g sv bv L last) (v : Value) : JB (w.setCell ⟨g, 0, none⟩ v) g v bv L last := heap_setCell_same w g 0 _ _ _ h
theorem JB.set1 {w : World} {g : Nat} {sv bv : Value} {L last : Int} (h : JB w g sv bv L last) (v : Value) : JB (w.setCell ⟨g, 1, none⟩ v) g sv v L last := heap_setCell_same w g 1 _ _ _ h
theorem JB.set2 {w : World} {g : Nat} {sv bv : Value} {L last : Int} (h : JB w g sv bv L last) (x : Int) : JB (w.setCell ⟨g, 2, none⟩ (.int .u32 x)) g sv bv x last := heap_setCell_same w g 2 _ _ _ h
theorem JB.set3 {w : World} {g : Nat} {sv bv : Value} {L last : Int} (h : JB w g sv bv L last) (x : Int) : JB (w.setCell ⟨g, 3, none⟩ (.int .u8 x)) g sv bv L x := heap_setCell_same w g 3 _ _ _ h
theorem JB.of_block {w w' : World} {g : Nat} {sv bv : Value} {L last : Int} (h : JB w g sv bv L last) (e : w'.heap[g]? = w.heap[g]?) : JB w' g sv bv L last := e.trans h

def lastOf (s : List UInt8) (last : Int) : Int := match s.getLast? with | some c => (c.toNat : Int) | none => last
/-- What AddString leaves. -/
def AddP (w : World) (D g n : Nat) (sv bv : Value) (L last : Int) (dv : Value) (xs : List Value) (q : Nat) (e : Ending) (w' : World) : Prop :=
  e = .returned (.tuple #[]) ∧ ∃ k cap, JB w' g (.slice (some ⟨k, 0, none⟩) (n + 1) cap) bv (L + q) last ∧
    w'.ownsRow D 47 2 (.slice (some ⟨k, 0, none⟩) (n + 1) cap) (n + 1) (xs ++ [dv, .int .u32 L]) ∧ (sv.ownBlock = some k ∨ w.heap.size ≤ k) ∧ Touch (fun j => j = g ∨ sv.ownBlock = some j) w w'
theorem add_close {w w1 w2 : World} {D g n k cap : Nat} {sv bv dv : Value} {L last : Int} {xs : List Value} {q : Nat}
    (hT : Touch (fun j => j = g ∨ sv.ownBlock = some j) w w1) (hO2 : w2.ownsRow D 47 2 (.slice (some ⟨k, 0, none⟩) (n + 1) cap) (n + 1) (xs ++ [dv, .int .u32 L]))
    (hG : ((w1.alloc (.cells #[dv, .int .u32 L] 47)).drew).grownBy w2 sv.ownBlock) (hA : sv.ownBlock = some k ∨ k = ((w1.alloc (.cells #[dv, .int .u32 L] 47)).drew).heap.size)
    (hJ : JB w2 g sv bv L last) (hg : g < w1.heap.size) (hN : sv.ownBlock ≠ some g) {L' : Int} (hL' : L' = L + q) :
    AddP w D g n sv bv L last dv xs q (.returned (.tuple #[])) ((w2.setCell ⟨g, 0, none⟩ (.slice (some ⟨k, 0, none⟩) (n + 1) cap)).setCell ⟨g, 2, none⟩ (.int .u32 L')) := by
  subst hL'
  have hkg : k ≠ g := by
    rcases hA with h | h
    · intro e; exact hN (by rw [h, e])
    · have : k = w1.heap.size + 1 := by rw [h]; simp [heap_drew]
      omega
  have hk : (Value.slice (some ⟨k, 0, none⟩) (n + 1) cap).ownBlock ≠ some g := by simp [Value.ownBlock, hkg]
  refine ⟨rfl, k, cap, (hJ.set0 _).set2 _, ownsRow_setCell_other (ownsRow_setCell_other hO2 (a := ⟨g, 0, none⟩) hk _) (a := ⟨g, 2, none⟩) hk _, ?_, ?_⟩
  · rcases hA with h | h
    · exact .inl h
    · right; have := hT.size; rw [h]; simp [heap_drew]; omega
  · exact (((hT.alloc _).drew.grown hG (fun k h _ => .inr h)).setCell _ (.inl rfl) _).setCell _ (.inl rfl) _
set_option maxHeartbeats 1000000 in
theorem add1 (w : World) (D g n : Nat) (sv bv : Value) (L last : Int) (s : ByteArray) (xs : List Value) (hb : JB w g sv bv L last)
    (hL : 0 ≤ L) (hL2 : L ≤ 1048576) (hs : s.size ≤ 1048576) (hn : n ≤ 1048576) (hown : w.ownsRow D 47 2 sv n xs) (hne : sv.ownBlock ≠ some g) (hD : D ≤ w.heap.size) (h0 : 0 < s.size) (last1 : Int) (hl1 : last1 = (s[s.size - 1].toNat : Int)) :
    Calls Try.prog 10 #[.pointer (some ⟨g, 0, none⟩), .string s] w (AddP w D g n sv bv L last1 (.string s) xs s.size) := by
  have HO := Lib.hid hown
  have HN := Lib.hid hne
  have HD := Lib.hid hD
  have HB := Lib.hid hb
  obtain ⟨c0, c1, c2, c3⟩ := hb.cells
  have f3 := hb.frozen 3
  have HL1 := Lib.hid hl1
  clear hl1
  obtain ⟨i0, z0, e1, e2, e3, e4, e5⟩ := parts_of info47
  have E1 := Lib.hid e1
  have E2 := Lib.hid e2
  have E3 := Lib.hid e3
  have E4 := Lib.hid e4
  have E5 := Lib.hid e5
  clear e1 e2 e3 e4 e5 hown hne hD hb
  go_enter Try.func10, Try.ntmps10
  go_wp2
  have HJ1 := Lib.hid (HB.out.set3 (s[s.size - 1].toNat : Int))
  have HO1 := Lib.hid (ownsRow_setCell_other HO.out (a := ⟨g, 3, none⟩) HN.out (.int .u8 (s[s.size - 1].toNat : Int)))
  have HT1 : Hid (Touch (fun j => j = g ∨ sv.ownBlock = some j) w (w.setCell ⟨g, 3, none⟩ (.int .u8 (s[s.size - 1].toNat : Int)))) := Lib.hid ((Touch.refl _ w).setCell _ (.inl rfl) _)
  have HD1 : Hid (D ≤ (w.setCell ⟨g, 3, none⟩ (.int .u8 (s[s.size - 1].toNat : Int))).heap.size) := Lib.hid (by have := HD.out; simpa using this)
  clear c0 c1 c2 c3 f3
  generalize (s[s.size - 1].toNat : Int) = last2 at *
  generalize (w.setCell ⟨g, 3, none⟩ (.int .u8 last2)) = w1 at *
  obtain ⟨c0, c1, c2, c3⟩ := HJ1.out.cells
  have f0 := HJ1.out.frozen 0
  have hlt1 := HJ1.out.lt
  have HOne : Hid (∀ u ∈ [Value.string s, .int .u32 L], u.oneCell' = true) := Lib.hid (by simp [Value.oneCell'])
  go_region_law (refine step_append_lies _ rfl (.tmp 19) (.tmp 26) 26 rfl D 47 i0 z0 2 24 Try.underlying26 E1.out E2.out E4.out E5.out (by rw [E3.out]; rfl) (by decide) sv n xs (by simp [Act.eval]) (HO1.out.alloc _) ⟨w1.heap.size, 0, none⟩ 1 1 [.string s, .int .u32 L] (by simp [Act.eval]) rfl (World.news_of_block (heap_alloc_new w1 _)) HOne.out (by decide) (by unfold maxLen; omega) (by omega) (by have := HD1.out; simp; omega) _ rfl ?_; intro k cap w2 hown hgrow hat hlt; have HO2 := Lib.hid hown; have HG2 := Lib.hid hgrow; have HA2 := Lib.hid hat; have HL2 := Lib.hid hlt; clear hown hgrow hat hlt; have HJ2 : Hid (JB w2 g sv bv L last2) := Lib.hid (HJ1.out.of_block ((HG2.out.block g (by have := HJ1.out.lt; simp; omega) (fun e => HN.out e.symm)).trans (Below.heap_alloc _ _ _ HJ1.out.lt))); obtain ⟨d0, d1, d2, d3⟩ := HJ2.out.cells; have q0 := HJ2.out.frozen 0; have q2 := HJ2.out.frozen 2)
  all_goals (go_wp2; go_end0; rw [HL1.out]; exact add_close HT1.out HO2.out HG2.out HA2.out HJ2.out HJ1.out.lt HN.out rfl)
set_option maxHeartbeats 1000000 in
theorem add0 (w : World) (D g n : Nat) (sv bv : Value) (L last : Int) (s : ByteArray) (xs : List Value) (hb : JB w g sv bv L last)
    (hL : 0 ≤ L) (hL2 : L ≤ 1048576) (hs : s.size ≤ 1048576) (hn : n ≤ 1048576) (hown : w.ownsRow D 47 2 sv n xs) (hne : sv.ownBlock ≠ some g) (hD : D ≤ w.heap.size) (h0 : s.size = 0) :
    Calls Try.prog 10 #[.pointer (some ⟨g, 0, none⟩), .string s] w (AddP w D g n sv bv L last (.string s) xs 0) := by
  have HO := Lib.hid hown
  have HN := Lib.hid hne
  have HD := Lib.hid hD
  have HB := Lib.hid hb
  obtain ⟨c0, c1, c2, c3⟩ := hb.cells
  have f3 := hb.frozen 3
  obtain rfl : s = ByteArray.empty := by
    obtain ⟨⟨l⟩⟩ := s
    simp [ByteArray.size] at h0
    subst h0; rfl
  clear h0
  obtain ⟨i0, z0, e1, e2, e3, e4, e5⟩ := parts_of info47
  have E1 := Lib.hid e1
  have E2 := Lib.hid e2
  have E3 := Lib.hid e3
  have E4 := Lib.hid e4
  have E5 := Lib.hid e5
  clear e1 e2 e3 e4 e5 hown hne hD hb
  go_enter Try.func10, Try.ntmps10
  go_wp2
  have HJ1 := HB
  have HO1 := HO
  have HT1 : Hid (Touch (fun j => j = g ∨ sv.ownBlock = some j) w w) := Lib.hid (Touch.refl _ w)
  have HD1 := HD
  clear c0 c1 c2 c3 f3
  obtain ⟨c0, c1, c2, c3⟩ := HJ1.out.cells
  have f0 := HJ1.out.frozen 0
  have hlt1 := HJ1.out.lt
  have HOne : Hid (∀ u ∈ [Value.string ByteArray.empty, .int .u32 L], u.oneCell' = true) := Lib.hid (by simp [Value.oneCell'])
  go_region_law (refine step_append_lies _ rfl (.tmp 19) (.tmp 26) 26 rfl D 47 i0 z0 2 24 Try.underlying26 E1.out E2.out E4.out E5.out (by rw [E3.out]; rfl) (by decide) sv n xs (by simp [Act.eval]) (HO1.out.alloc _) ⟨w.heap.size, 0, none⟩ 1 1 [.string ByteArray.empty, .int .u32 L] (by simp [Act.eval]) rfl (World.news_of_block (heap_alloc_new w _)) HOne.out (by decide) (by unfold maxLen; omega) (by omega) (by have := HD1.out; simp; omega) _ rfl ?_; intro k cap w2 hown hgrow hat hlt; have HO2 := Lib.hid hown; have HG2 := Lib.hid hgrow; have HA2 := Lib.hid hat; have HL2 := Lib.hid hlt; clear hown hgrow hat hlt; have HJ2 : Hid (JB w2 g sv bv L last) := Lib.hid (HJ1.out.of_block ((HG2.out.block g (by have := HJ1.out.lt; simp; omega) (fun e => HN.out e.symm)).trans (Below.heap_alloc _ _ _ HJ1.out.lt))); obtain ⟨d0, d1, d2, d3⟩ := HJ2.out.cells; have q0 := HJ2.out.frozen 0; have q2 := HJ2.out.frozen 2)
  all_goals (go_wp2; go_end0; exact add_close HT1.out HO2.out HG2.out HA2.out HJ2.out HJ1.out.lt HN.out (by simp))
/-- What AddBytes leaves. -/
def AddbP (w : World) (D g n : Nat) (sv bv : Value) (L last : Int) (dv : Value) (xs : List Value) (q : Nat) (e : Ending) (w' : World) : Prop :=
  e = .returned (.tuple #[]) ∧ ∃ k cap, JB w' g bv (.slice (some ⟨k, 0, none⟩) (n + 1) cap) (L + q) last ∧
    w'.ownsRow D 49 2 (.slice (some ⟨k, 0, none⟩) (n + 1) cap) (n + 1) (xs ++ [dv, .int .u32 L]) ∧ (sv.ownBlock = some k ∨ w.heap.size ≤ k) ∧ Touch (fun j => j = g ∨ sv.ownBlock = some j) w w'
theorem addb_close {w w1 w2 : World} {D g n k cap : Nat} {sv bv dv : Value} {L last : Int} {xs : List Value} {q : Nat}
    (hT : Touch (fun j => j = g ∨ sv.ownBlock = some j) w w1) (hO2 : w2.ownsRow D 49 2 (.slice (some ⟨k, 0, none⟩) (n + 1) cap) (n + 1) (xs ++ [dv, .int .u32 L]))
    (hG : ((w1.alloc (.cells #[dv, .int .u32 L] 49)).drew).grownBy w2 sv.ownBlock) (hA : sv.ownBlock = some k ∨ k = ((w1.alloc (.cells #[dv, .int .u32 L] 49)).drew).heap.size)
    (hJ : JB w2 g bv sv L last) (hg : g < w1.heap.size) (hN : sv.ownBlock ≠ some g) {L' : Int} (hL' : L' = L + q) :
    AddbP w D g n sv bv L last dv xs q (.returned (.tuple #[])) ((w2.setCell ⟨g, 1, none⟩ (.slice (some ⟨k, 0, none⟩) (n + 1) cap)).setCell ⟨g, 2, none⟩ (.int .u32 L')) := by
  subst hL'
  have hkg : k ≠ g := by
    rcases hA with h | h
    · intro e; exact hN (by rw [h, e])
    · have : k = w1.heap.size + 1 := by rw [h]; simp [heap_drew]
      omega
  have hk : (Value.slice (some ⟨k, 0, none⟩) (n + 1) cap).ownBlock ≠ some g := by simp [Value.ownBlock, hkg]
  refine ⟨rfl, k, cap, (hJ.set1 _).set2 _, ownsRow_setCell_other (ownsRow_setCell_other hO2 (a := ⟨g, 1, none⟩) hk _) (a := ⟨g, 2, none⟩) hk _, ?_, ?_⟩
  · rcases hA with h | h
    · exact .inl h
    · right; have := hT.size; rw [h]; simp [heap_drew]; omega
  · exact (((hT.alloc _).drew.grown hG (fun k h _ => .inr h)).setCell _ (.inl rfl) _).setCell _ (.inl rfl) _
set_option maxHeartbeats 1000000 in
theorem addb1 (w : World) (D g n : Nat) (sv bv : Value) (L last : Int) (a : Option Addr) (m c : Nat) (B : List UInt8) (xs : List Value) (hb : JB w g bv sv L last)
    (hL : 0 ≤ L) (hL2 : L ≤ 1048576) (hs : m ≤ 1048576) (hn : n ≤ 1048576) (hown : w.ownsRow D 49 2 sv n xs) (hne : sv.ownBlock ≠ some g) (hD : D ≤ w.heap.size) (hm : m = B.length) (hc : 0 < m → ∃ b off, a = some ⟨b, off, none⟩ ∧ ∀ i, i < m → w.cell? ⟨b, off + i, none⟩ = some (.int .u8 (B.getD i 0).toNat)) (h0 : 0 < m) (last1 : Int) (hl1 : last1 = ((B[m - 1]?.getD 0).toNat : Int)) :
    Calls Try.prog 21 #[.pointer (some ⟨g, 0, none⟩), .slice a m c] w (AddbP w D g n sv bv L last1 (.slice a m c) xs m) := by
  have HO := Lib.hid hown
  have HN := Lib.hid hne
  have HD := Lib.hid hD
  have HB := Lib.hid hb
  obtain ⟨c0, c1, c2, c3⟩ := hb.cells
  have f3 := hb.frozen 3
  have HL1 := Lib.hid hl1
  clear hl1
  obtain ⟨b, off, rfl, hcell⟩ := hc h0
  have c4 := hcell (m - 1) (by omega)
  simp only [List.getD_eq_getElem?_getD] at c4
  have hbl : b < w.heap.size := block_lt_of_cell c4
  have i1 : decide ((0 : Int) < (m : Int)) = true := by simp; omega
  clear hcell hc hm
  obtain ⟨i0, z0, e1, e2, e3, e4, e5⟩ := parts_of info49
  have E1 := Lib.hid e1
  have E2 := Lib.hid e2
  have E3 := Lib.hid e3
  have E4 := Lib.hid e4
  have E5 := Lib.hid e5
  clear e1 e2 e3 e4 e5 hown hne hD hb
  go_enter Try.func21, Try.ntmps21
  go_wp2
  have HJ1 := Lib.hid (HB.out.set3 ((B[m - 1]?.getD 0).toNat : Int))
  have HO1 := Lib.hid (ownsRow_setCell_other HO.out (a := ⟨g, 3, none⟩) HN.out (.int .u8 ((B[m - 1]?.getD 0).toNat : Int)))
  have HT1 : Hid (Touch (fun j => j = g ∨ sv.ownBlock = some j) w (w.setCell ⟨g, 3, none⟩ (.int .u8 ((B[m - 1]?.getD 0).toNat : Int)))) := Lib.hid ((Touch.refl _ w).setCell _ (.inl rfl) _)
  have HD1 : Hid (D ≤ (w.setCell ⟨g, 3, none⟩ (.int .u8 ((B[m - 1]?.getD 0).toNat : Int))).heap.size) := Lib.hid (by have := HD.out; simpa using this)
  clear c0 c1 c2 c3 f3
  generalize ((B[m - 1]?.getD 0).toNat : Int) = last2 at *
  generalize (w.setCell ⟨g, 3, none⟩ (.int .u8 last2)) = w1 at *
  obtain ⟨c0, c1, c2, c3⟩ := HJ1.out.cells
  have f0 := HJ1.out.frozen 1
  have hlt1 := HJ1.out.lt
  have HOne : Hid (∀ u ∈ [Value.slice (some ⟨b, off, none⟩) m c, .int .u32 L], u.oneCell' = true) := Lib.hid (by simp [Value.oneCell'])
  go_region_law (refine step_append_lies _ rfl (.tmp 20) (.tmp 27) 27 rfl D 49 i0 z0 2 32 Try.underlying27 E1.out E2.out E4.out E5.out (by rw [E3.out]; rfl) (by decide) sv n xs (by simp [Act.eval]) (HO1.out.alloc _) ⟨w1.heap.size, 0, none⟩ 1 1 [.slice (some ⟨b, off, none⟩) m c, .int .u32 L] (by simp [Act.eval]) rfl (World.news_of_block (heap_alloc_new w1 _)) HOne.out (by decide) (by unfold maxLen; omega) (by omega) (by have := HD1.out; simp; omega) _ rfl ?_; intro k cap w2 hown hgrow hat hlt; have HO2 := Lib.hid hown; have HG2 := Lib.hid hgrow; have HA2 := Lib.hid hat; have HL2 := Lib.hid hlt; clear hown hgrow hat hlt; have HJ2 : Hid (JB w2 g bv sv L last2) := Lib.hid (HJ1.out.of_block ((HG2.out.block g (by have := HJ1.out.lt; simp; omega) (fun e => HN.out e.symm)).trans (Below.heap_alloc _ _ _ HJ1.out.lt))); obtain ⟨d0, d1, d2, d3⟩ := HJ2.out.cells; have q0 := HJ2.out.frozen 1; have q2 := HJ2.out.frozen 2)
  all_goals (go_wp2; go_end0; rw [HL1.out]; exact addb_close HT1.out HO2.out HG2.out HA2.out HJ2.out HJ1.out.lt HN.out rfl)
set_option maxHeartbeats 1000000 in
theorem addb0 (w : World) (D g n : Nat) (sv bv : Value) (L last : Int) (a : Option Addr) (m c : Nat) (B : List UInt8) (xs : List Value) (hb : JB w g bv sv L last)
    (hL : 0 ≤ L) (hL2 : L ≤ 1048576) (hs : m ≤ 1048576) (hn : n ≤ 1048576) (hown : w.ownsRow D 49 2 sv n xs) (hne : sv.ownBlock ≠ some g) (hD : D ≤ w.heap.size) (hm : m = B.length) (hc : 0 < m → ∃ b off, a = some ⟨b, off, none⟩ ∧ ∀ i, i < m → w.cell? ⟨b, off + i, none⟩ = some (.int .u8 (B.getD i 0).toNat)) (h0 : m = 0) :
    Calls Try.prog 21 #[.pointer (some ⟨g, 0, none⟩), .slice a m c] w (AddbP w D g n sv bv L last (.slice a m c) xs 0) := by
  have HO := Lib.hid hown
  have HN := Lib.hid hne
  have HD := Lib.hid hD
  have HB := Lib.hid hb
  obtain ⟨c0, c1, c2, c3⟩ := hb.cells
  have f3 := hb.frozen 3
  subst h0
  clear hm hc
  obtain ⟨i0, z0, e1, e2, e3, e4, e5⟩ := parts_of info49
  have E1 := Lib.hid e1
  have E2 := Lib.hid e2
  have E3 := Lib.hid e3
  have E4 := Lib.hid e4
  have E5 := Lib.hid e5
  clear e1 e2 e3 e4 e5 hown hne hD hb
  go_enter Try.func21, Try.ntmps21
  go_wp2
  have HJ1 := HB
  have HO1 := HO
  have HT1 : Hid (Touch (fun j => j = g ∨ sv.ownBlock = some j) w w) := Lib.hid (Touch.refl _ w)
  have HD1 := HD
  clear c0 c1 c2 c3 f3
  obtain ⟨c0, c1, c2, c3⟩ := HJ1.out.cells
  have f0 := HJ1.out.frozen 1
  have hlt1 := HJ1.out.lt
  have HOne : Hid (∀ u ∈ [Value.slice a 0 c, .int .u32 L], u.oneCell' = true) := Lib.hid (by simp [Value.oneCell'])
  go_region_law (refine step_append_lies _ rfl (.tmp 20) (.tmp 27) 27 rfl D 49 i0 z0 2 32 Try.underlying27 E1.out E2.out E4.out E5.out (by rw [E3.out]; rfl) (by decide) sv n xs (by simp [Act.eval]) (HO1.out.alloc _) ⟨w.heap.size, 0, none⟩ 1 1 [.slice a 0 c, .int .u32 L] (by simp [Act.eval]) rfl (World.news_of_block (heap_alloc_new w _)) HOne.out (by decide) (by unfold maxLen; omega) (by omega) (by have := HD1.out; simp; omega) _ rfl ?_; intro k cap w2 hown hgrow hat hlt; have HO2 := Lib.hid hown; have HG2 := Lib.hid hgrow; have HA2 := Lib.hid hat; have HL2 := Lib.hid hlt; clear hown hgrow hat hlt; have HJ2 : Hid (JB w2 g bv sv L last) := Lib.hid (HJ1.out.of_block ((HG2.out.block g (by have := HJ1.out.lt; simp; omega) (fun e => HN.out e.symm)).trans (Below.heap_alloc _ _ _ HJ1.out.lt))); obtain ⟨d0, d1, d2, d3⟩ := HJ2.out.cells; have q0 := HJ2.out.frozen 1; have q2 := HJ2.out.frozen 2)
  all_goals (go_wp2; go_end0; exact addb_close HT1.out HO2.out HG2.out HA2.out HJ2.out HJ1.out.lt HN.out (by simp))

theorem length (w : World) (g : Nat) (sv bv : Value) (L last : Int) (hb : JB w g sv bv L last) : Calls Try.prog 11 #[.pointer (some ⟨g, 0, none⟩)] w fun e w' => e = .returned (.int .u32 L) ∧ w = w' := by
  obtain ⟨c0, c1, c2, c3⟩ := hb.cells
  clear hb
  go_enter Try.func11, Try.ntmps11
  go_wp2
  go_ret
  exact ⟨rfl, rfl⟩
theorem lastByte (w : World) (g : Nat) (sv bv : Value) (L last : Int) (hb : JB w g sv bv L last) : Calls Try.prog 15 #[.pointer (some ⟨g, 0, none⟩)] w fun e w' => e = .returned (.int .u8 last) ∧ w = w' := by
  obtain ⟨c0, c1, c2, c3⟩ := hb.cells
  clear hb
  go_enter Try.func15, Try.ntmps15
  go_wp2
  go_ret
  exact ⟨rfl, rfl⟩
end Go.Proofs.Ythcfdoaeefnemaa.jn
