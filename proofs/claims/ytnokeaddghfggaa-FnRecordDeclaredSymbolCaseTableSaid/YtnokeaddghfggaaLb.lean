/-
  Declared symbols: what the law holds.
-/
import Derived.Test.YtnokeaddghfggaaRw
namespace Go.Proofs.Ytnokeaddghfggaa.ds
open Go.ChangeShapes Go.WideShapes Go.ChangeAt Go.RowKit Go.Deep Go.Proofs.Ytnokeaddghfggaa.mk
set_option linter.unusedVariables false
set_option linter.unusedSimpArgs false

/-- The number of the symbol that a reference means. -/
def ix (R : Nat → Int) (n j : Nat) : Nat := (R j).toNat % n
/-- The entries: p of the law's own, then one a call. -/
def Fe (p : Nat) (top : Bool) (lk : Nat) (K : Nat → Int) (ln : Nat) (N : Nat → Int) (lm : Nat) (Q : Nat → Int) (n : Nat) (R : Nat → Int) (i : Nat) : List Value :=
  if i < p then [.int .u32 7, .int .u32 i, .bool false] else [.int .u32 1, .int .u32 (ix R n (i - p) : Nat), .bool (tv top lk K ln N lm Q n (ix R n (i - p)))]
section
variable {p : Nat} {top : Bool} {lk : Nat} {K : Nat → Int} {ln : Nat} {N : Nat → Int} {lm : Nat} {Q : Nat → Int} {n : Nat} {R : Nat → Int}
theorem Fe_len (i : Nat) : (Fe p top lk K ln N lm Q n R i).length = 3 := by unfold Fe; split <;> rfl
theorem Fe_lo {i : Nat} (h : i < p) : Fe p top lk K ln N lm Q n R i = [.int .u32 7, .int .u32 i, .bool false] := by unfold Fe; rw [if_pos h]
theorem Fe_hi (j : Nat) : Fe p top lk K ln N lm Q n R (p + j) = [.int .u32 1, .int .u32 (ix R n j : Nat), .bool (tv top lk K ln N lm Q n (ix R n j))] := by
  unfold Fe; rw [if_neg (by omega), show p + j - p = j by omega]
end
theorem ix_lt (R : Nat → Int) {n : Nat} (hn : 0 < n) (j : Nat) : ix R n j < n := Nat.mod_lt _ hn
theorem ix_rem (R : Nat → Int) (n j : Nat) (h : 0 ≤ R j) : R j % (n : Int) = (ix R n j : Nat) := by
  unfold ix
  obtain ⟨x, hx⟩ : ∃ x : Nat, R j = x := ⟨(R j).toNat, by omega⟩
  rw [hx]; simp
/-- Between the loops: what lay before the part is as it was. -/
def Tp (PB : Nat) (w3 wr : World) : Prop := Touch (fun q => PB ≤ q) w3 wr
/-- The cells of an entry. -/
theorem entry_cells {w : World} {D E m : Nat} {a : Option Addr} {c : Nat} {F : Nat → List Value} (h : w.ownsRow D E 3 (.slice a m c) m (xsOf F m)) (hF : ∀ i, (F i).length = 3) {i : Nat} (hi : i < m) : ∃ k, a = some ⟨k, 0, none⟩ ∧ m ≤ c ∧ ∀ r v, r < 3 → (F i)[r]? = some v → w.cell? ⟨k, i * 3 + r, none⟩ = some v := by
  rcases h.2 with ⟨e, h0⟩ | ⟨k, cap, cur, e, hb, hh, h3, h4, h5, h6⟩
  · omega
  · simp only [Value.slice.injEq, true_and] at e
    obtain ⟨rfl, rfl⟩ := e
    refine ⟨k, rfl, h3, fun r v hr hv => ?_⟩
    rw [h.cellAt (i * 3 + r) (by omega), xsOf_get hF m i r hi hr, hv]
theorem De.start {w3 wr w5 : World} {C B MB SB PB n lk : Nat} {K : Nat → Int} {ln : Nat} {N : Nat → Int} {lm : Nat} {Q : Nat → Int} {m : Nat} {a : Option Addr} {c : Nat} {xs : List Value} {e : Ending} {w1 : World}
    (hS : Syms w3 SB n (symC N ln K lk)) (hSl : SB < PB) (hC : Sco w1 w3 B MB 8 Q lm n) (hBl : B < PB) (hcc : ∃ cc, w3.heap[C]? = some (.cells cc 77 (0, 0))) (hCl : C < PB) (hP3 : PB < w3.heap.size) (hT : Tp PB w3 wr) (hD : Dp wr PB m (.slice a m c) xs) (hN : NewP wr C B SB n PB e w5) :
    ∃ g, e = .returned (.pointer (some ⟨g, 0, none⟩)) ∧ De w5 (PB + 1) g C B MB SB PB n lk K ln N lm Q m (.slice a m c) xs ∧ Below wr.heap.size wr w5 := by
  obtain ⟨g, he, hg, c1, c2, c3, c4, hb⟩ := hN
  have hl := hD.lt
  have hn := hC.ne
  have bl : ∀ q, q < PB → w5.heap[q]? = w3.heap[q]? := fun q hq => (hb.block q (by omega)).trans (hT.block q (by omega) (by omega))
  obtain ⟨mm, Mm, h1, h2⟩ := hC.mp
  obtain ⟨ca, hca⟩ := hC.bB
  obtain ⟨cc, hcc⟩ := hcc
  refine ⟨g, he, ⟨⟨c1, c2, c3, c4, hS.of_block (bl SB hSl), (World.cell?_of_block (a := ⟨B, 3, none⟩) (bl B hBl)).trans hC.c3, ⟨ca, (bl B hBl).trans hca⟩, ⟨cc, (bl C hCl).trans hcc⟩, by omega, by omega, ⟨mm, Mm, h1.of_block (bl MB (by omega)), h2⟩, by omega, by omega, by omega, by omega, by omega, by omega, by omega, by omega, by have := hb.size; omega⟩, (hb.cell (p := ⟨PB, 3, none⟩) hl).trans hD.p3, (hb.frozen (p := ⟨PB, 3, none⟩) hl).trans hD.f3, ?_, ?_⟩, hb⟩
  · obtain ⟨g1, g2⟩ := hD.own
    refine ⟨g1, ?_⟩
    rcases g2 with g2 | ⟨q, cap, cur, e, hbq, hh, r⟩
    · exact .inl g2
    · exact .inr ⟨q, cap, cur, e, hbq, (hb.block q (lt_of_block hh)).trans hh, r⟩
  · intro e
    have := (hD.own.lt g e).2; omega
theorem bel2 {w V V2 : World} (h : Hid (Below w.heap.size w V)) (hb : Below V.heap.size V V2) : Hid (Below w.heap.size w V2) := Lib.hid (h.out.trans (hb.mono h.out.size))
def LawP (w : World) (e : Ending) (w' : World) : Prop := e = .returned (.bool true) ∧ Below w.heap.size w w'
end Go.Proofs.Ytnokeaddghfggaa.ds
