/-
  What the two statements on mixed scripts have in common.
-/
import Derived.Test.YthcfdoaeefnemaaJm
namespace Go.Proofs.Ythcfdoaeefnemaa.jn
open Go.ChangeShapes Go.WideShapes Go.ChangeAt Go.RowKit Go.Deep Go.Lib
set_option linter.unusedVariables false
set_option linter.unusedSimpArgs false

def catP (Z : Nat → Nat → Int) (L : Nat → Nat) : Nat → List UInt8
  | 0 => []
  | k + 1 => catP Z L k ++ part Z L k
theorem length_catP (Z : Nat → Nat → Int) (L : Nat → Nat) (k : Nat) : (catP Z L k).length = sumL L k := by
  induction k with
  | zero => rfl
  | succ k ih => simp only [catP, sumL, List.length_append, ih, length_part]
theorem lastX (w : World) (D g : Nat) (gs gb : Option Nat) (S : List (ByteArray × Nat)) (Y : List BItem) (T : List UInt8) (h : Jn w D g gs gb S Y T) (x : Int) (hx : lastOf T 0 = x) :
    Calls Try.prog 15 #[.pointer (some ⟨g, 0, none⟩)] w fun e w' => e = .returned (.int .u8 x) ∧ w = w' := by subst hx; exact lastJ w D g gs gb S Y T h
theorem convX (w : World) (a : Option Addr) (n c : Nat) (B : List UInt8) (hn : B.length = n) (h : Row w a n (byteAt B)) : (convert 31 9 (.slice a n c)).run Try.prog w = .ok (.string ⟨B.toArray⟩) w := by subst hn; exact conv w a c B h
theorem addX (w : World) (D g : Nat) (gs gb : Option Nat) (S : List (ByteArray × Nat)) (Y : List BItem) (T : List UInt8) (B : List UInt8) (h : Jn w D g gs gb S Y T)
    (hT : T.length ≤ 1048576) (hs : B.length ≤ 1048576) (hn : S.length ≤ 1048576) : Calls Try.prog 10 #[.pointer (some ⟨g, 0, none⟩), .string ⟨B.toArray⟩] w (AddS w D g gs gb S Y T ⟨B.toArray⟩) :=
  addS w D g gs gb S Y T _ h hT (by rw [← size_list]; simpa using hs) hn
theorem addY (w : World) (D g : Nat) (gs gb : Option Nat) (S : List (ByteArray × Nat)) (Y : List BItem) (T : List UInt8) (a : Option Addr) (n c : Nat) (B : List UInt8) (h : Jn w D g gs gb S Y T)
    (hB : B.length = n) (hr : RowD w D a n (byteAt B))
    (hT : T.length ≤ 1048576) (hs : n ≤ 1048576) (hn : Y.length ≤ 1048576) : Calls Try.prog 21 #[.pointer (some ⟨g, 0, none⟩), .slice a n c] w (AddB w D g gs gb S Y T ⟨a, n, c, B, T.length⟩) :=
  addB w D g gs gb S Y T ⟨a, n, c, B, T.length⟩ h ⟨hB.symm, hr⟩ rfl hT hs hn
theorem Jn.belX {w w' : World} {D ga : Nat} {sa sb : Option Nat} {S : List (ByteArray × Nat)} {Y : List BItem} {T : List UInt8} (h : Jn w D ga sa sb S Y T) (hT : Touch (fun j => j = ga ∨ sa = some j) w w') : Below D w w' := by
  obtain ⟨sv, bv, a1, a2, rfl, a4, rfl, a6, a7, a8, a9, a10, a11⟩ := h
  exact hT.below (by have := a1.lt; omega) (by
    rintro k (rfl | e)
    · exact a9
    · exact (ownBlock_lt a2 e).1)
theorem Jn.belY {w w' : World} {D ga : Nat} {sa sb : Option Nat} {S : List (ByteArray × Nat)} {Y : List BItem} {T : List UInt8} (h : Jn w D ga sa sb S Y T) (hT : Touch (fun j => j = ga ∨ sb = some j) w w') : Below D w w' := by
  obtain ⟨sv, bv, a1, a2, rfl, a4, rfl, a6, a7, a8, a9, a10, a11⟩ := h
  exact hT.below (by have := a1.lt; omega) (by
    rintro k (rfl | e)
    · exact a9
    · exact (ownBlock_lt a4 e).1)
theorem Row.toD {w : World} {a : Option Addr} {n : Nat} {V : Nat → Value} (h : Row w a n V) : RowD w w.heap.size a n V := fun h0 => by
  obtain ⟨b, off, h1, h2⟩ := h h0
  exact ⟨b, off, h1, block_lt_of_cell (h2 0 h0), h2⟩
theorem Row.congr {w : World} {a : Option Addr} {n : Nat} {V V' : Nat → Value} (h : Row w a n V) (e : ∀ i, i < n → V i = V' i) : Row w a n V' := fun h0 => by
  obtain ⟨b, off, h1, h2⟩ := h h0
  exact ⟨b, off, h1, fun i hi => by rw [h2 i hi, e i hi]⟩
end Go.Proofs.Ythcfdoaeefnemaa.jn
