/-
  The parser of the statement on 'using' declarations, and what it answers.
-/
import Derived.Test.YtfkeeainklbfbaaUs

namespace Go.Proofs.Ytfkeeainklbfbaa.us
open Go.ChangeShapes Go.WideShapes Go.ChangeAt Go.RowKit Go.Deep
set_option linter.unusedVariables false

/-- The cells of a literal of type 158: the named fields as given, all else zero. -/
noncomputable def pc  : Array Value := (Try.prog.built 158 []).getD #[]
theorem pc_built  : Try.prog.built 158 [] = some (pc ) := by kernel_rfl
theorem pc_wp {o : Oper} {a : Act} {w : World} {K : Act → World → Prop} {Q : Exit → Act → World → Prop} (ho : o.op = .build 158 #[]) 
    (h : K (a.put o.dst (.agg (pc ))) w) : o.wp Try.prog a w K Q := by
  refine wp_build 158 _ ho ?_ ?_
  · simp only [List.map_toArray, List.map_nil, pc_built]; rfl
  · simp only [List.map_toArray, List.map_nil, pc_built, Option.getD_some]; exact h

theorem pc_23  : (pc )[23]? = some (.int .u64 0) := by kernel_rfl
theorem pc_333  : (pc )[333]? = some (.bool false) := by kernel_rfl
theorem pc_338  : (pc )[338]? = some (.bool false) := by kernel_rfl

def Par (w : World) (g : Nat) (f : Int) (G : Bool) : Prop := w.cell? ⟨g, 23, none⟩ = some (.int .u64 f) ∧ w.cell? ⟨g, 333, none⟩ = some (.bool G)
theorem Par.below {w w' : World} {g : Nat} {f : Int} {G : Bool} (h : Par w g f G) (hb : Below w.heap.size w w') : Par w' g f G := by
  have hl : g < w.heap.size := block_lt_of_cell h.1
  exact ⟨(hb.cell (p := ⟨g, 23, none⟩) hl).trans h.1, (hb.cell (p := ⟨g, 333, none⟩) hl).trans h.2⟩
def NewP (w : World) (f : Int) (G : Bool) (e : Ending) (w' : World) : Prop := ∃ g, e = .returned (.pointer (some ⟨g, 0, none⟩)) ∧ Par w' g f G ∧ Below w.heap.size w w'

set_option maxRecDepth 100000 in
set_option maxHeartbeats 2000000 in
theorem newP (w : World) (f : Int) (g s : Bool) : Calls Try.prog 6 #[.int .u64 f, .bool g, .bool s] w (NewP w f g) := by
  have p1 := pc_23
  have p2 := pc_333
  have p3 := pc_338
  go_enter Try.func6, Try.ntmps6
  go_wp2_with fail
  refine pc_wp rfl ?_
  go_simp
  go_wp2_with fail
  go_ret
  have hs1 : 23 < pc.size := (Array.getElem?_eq_some_iff.1 pc_23).1
  have hs2 : 333 < pc.size := (Array.getElem?_eq_some_iff.1 pc_333).1
  refine ⟨w.heap.size, rfl, ⟨?_, ?_⟩, (Below.refl _ _).alloc (Nat.le_refl _) _⟩
  · rw [cell_of_row _ _ 23 _ _ _ (heap_alloc_new w _), Array.getElem?_setIfInBounds_ne (by omega), Array.getElem?_setIfInBounds_ne (by omega), Array.getElem?_setIfInBounds_self_of_lt hs1]
  · rw [cell_of_row _ _ 333 _ _ _ (heap_alloc_new w _), Array.getElem?_setIfInBounds_ne (by omega), Array.getElem?_setIfInBounds_self_of_lt (by simpa using hs2)]

def H (f c : Int) : Bool := bits .and .u64 f c != 0
theorem bits_nat (v : BitVec 64) : IntKind.u64.wrap (v.toNat : Int) = v.toNat := by
  have := v.isLt
  simp [IntKind.wrap, IntKind.bits, IntKind.signed]
  omega
theorem H_iff (f c : Int) : H f c = false ↔ BitVec.ofInt 64 f &&& BitVec.ofInt 64 c = 0#64 := by
  have e : bits .and .u64 f c = ((BitVec.ofInt 64 f &&& BitVec.ofInt 64 c).toNat : Int) := bits_nat _
  unfold H
  rw [e]
  simp only [bne_eq_false_iff_eq]
  constructor
  · intro h
    apply BitVec.eq_of_toNat_eq
    simp only [BitVec.toNat_ofNat]
    omega
  · intro h; rw [h]; rfl
theorem H_mono (f1 f2 c : Int) (h : H f1 c = true) : H (bits .or .u64 f1 f2) c = true := by
  cases e : H (bits .or .u64 f1 f2) c with
  | true => rfl
  | false =>
    rw [H_iff] at e
    have e2 : BitVec.ofInt 64 (bits .or .u64 f1 f2) = BitVec.ofInt 64 f1 ||| BitVec.ofInt 64 f2 := by
      have : bits .or .u64 f1 f2 = ((BitVec.ofInt 64 f1 ||| BitVec.ofInt 64 f2).toNat : Int) := bits_nat _
      rw [this, BitVec.ofInt_natCast, BitVec.ofNat_toNat, BitVec.setWidth_eq]
    rw [e2] at e
    have : H f1 c = false := by
      rw [H_iff]
      apply BitVec.eq_of_getElem_eq
      intro i hi
      have := congrArg (fun v => v[i]) e
      simp at this ⊢
      intro h1
      cases h2 : (BitVec.ofInt 64 c)[i] with
      | false => rfl
      | true => simp [h1, h2] at this
    rw [this] at h; cases h
/-- The answer for one statement. -/
def low (f : Int) (G : Bool) (r : Int) : Bool := (r == 3 && H f 1152921504606846976) || (r == 4 && ((H f 1152921504606846976 || H f 8) || (H f 16 && G)))
theorem low_mono (f1 f2 : Int) (G : Bool) (r : Int) (h : low f1 G r = true) : low (bits .or .u64 f1 f2) G r = true := by
  unfold low at *
  have m1 := H_mono f1 f2 1152921504606846976
  have m2 := H_mono f1 f2 8
  have m3 := H_mono f1 f2 16
  revert h m1 m2 m3
  generalize H f1 1152921504606846976 = x1
  generalize H f1 8 = x2
  generalize H f1 16 = x3
  generalize H (bits .or .u64 f1 f2) 1152921504606846976 = y1
  generalize H (bits .or .u64 f1 f2) 8 = y2
  generalize H (bits .or .u64 f1 f2) 16 = y3
  generalize (r == 3) = p
  generalize (r == 4) = q
  revert x1 x2 x3 y1 y2 y3 p q G
  decide
theorem has12 (w : World) (f c : Int) : Calls Try.prog 12 #[.int .u64 f, .int .u64 c] w fun e w' => e = .returned (.bool (H f c)) ∧ w = w' := by
  go_enter Try.func12, Try.ntmps12
  go_wp2
  go_ret
  exact ⟨rfl, rfl⟩
end Go.Proofs.Ytfkeeainklbfbaa.us
