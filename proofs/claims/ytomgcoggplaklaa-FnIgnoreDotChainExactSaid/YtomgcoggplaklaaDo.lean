/-
  Chains of expressions: what leads to the identifier.
-/
import Derived.Test.YtomgcoggplaklaaIg
namespace Go.Proofs.Ytomgcoggplaklaa.ch
open Go.ChangeShapes Go.WideShapes Go.ChangeAt Go.RowKit Go.Deep Go.Proofs.Ytomgcoggplaklaa.mk
set_option linter.unusedVariables false
set_option linter.unusedSimpArgs false

/-- The expression that points to the node at block b, of type T. -/
def ex (T b : Nat) : Value := .iface T (.pointer (some ⟨b, 0, none⟩))
/-- The node at block b, of type T: does it lead to identifier k? Nodes lie at blocks from C on, a target's below its user's. -/
inductive Ch (w : World) (C k : Nat) : Bool → Nat → Nat → Prop
  | ident {b : Nat} : C ≤ b → b < w.heap.size → w.cell? ⟨b, 0, none⟩ = some (.int .u32 0) → w.cell? ⟨b, 1, none⟩ = some (.int .u32 k) → Ch w C k true 189 b
  | num {b : Nat} : C ≤ b → b < w.heap.size → Ch w C k false 192 b
  | dot {b b' T : Nat} {h : Bool} {loc : Int} : C ≤ b → b < w.heap.size → b' < b → w.cell? ⟨b, 0, none⟩ = some (.iface T (.pointer (some ⟨b', 0, none⟩))) → w.cell? ⟨b, 1, none⟩ = some (.int .i32 loc) → Ch w C k h T b' → Ch w C k h 195 b
  | str {b b' T : Nat} {h : Bool} {x : Value} {loc : Int} : C ≤ b → b < w.heap.size → b' < b → w.cell? ⟨b, 0, none⟩ = some (.iface T (.pointer (some ⟨b', 0, none⟩))) → w.cell? ⟨b, 1, none⟩ = some (.int .i32 loc) → w.cell? ⟨b, 2, none⟩ = some (.iface 200 x) → Ch w C k h T b' → Ch w C k h 199 b
  | one {b : Nat} {x : Value} : C ≤ b → b < w.heap.size → w.cell? ⟨b, 2, none⟩ = some (.iface 192 x) → Ch w C k false 199 b
  | call {b : Nat} : C ≤ b → b < w.heap.size → Ch w C k false 205 b
theorem Ch.keep {w w' : World} {C k b T : Nat} {h : Bool} (hc : Ch w C k h T b) (hs : w.heap.size ≤ w'.heap.size) (e : ∀ q, C ≤ q → q ≤ b → w'.heap[q]? = w.heap[q]?) : Ch w' C k h T b := by
  have c : ∀ q j, C ≤ q → q ≤ b → w'.cell? ⟨q, j, none⟩ = w.cell? ⟨q, j, none⟩ := fun q j h1 h2 => World.cell?_of_block (a := ⟨q, j, none⟩) (e q h1 h2)
  clear e
  induction hc with
  | ident h1 h2 h3 h4 => exact .ident h1 (by omega) ((c _ _ h1 (Nat.le_refl _)).trans h3) ((c _ _ h1 (Nat.le_refl _)).trans h4)
  | num h1 h2 => exact .num h1 (by omega)
  | dot h1 h2 h3 h4 h5 _ ih => exact .dot h1 (by omega) h3 ((c _ _ h1 (Nat.le_refl _)).trans h4) ((c _ _ h1 (Nat.le_refl _)).trans h5) (ih (fun q j a b => c q j a (by omega)))
  | str h1 h2 h3 h4 h5 h6 _ ih => exact .str h1 (by omega) h3 ((c _ _ h1 (Nat.le_refl _)).trans h4) ((c _ _ h1 (Nat.le_refl _)).trans h5) ((c _ _ h1 (Nat.le_refl _)).trans h6) (ih (fun q j a b => c q j a (by omega)))
  | one h1 h2 h3 => exact .one h1 (by omega) ((c _ _ h1 (Nat.le_refl _)).trans h3)
  | call h1 h2 => exact .call h1 (by omega)
theorem Ch.lt {w : World} {C k b T : Nat} {h : Bool} (hc : Ch w C k h T b) : C ≤ b ∧ b < w.heap.size := by
  cases hc <;> exact ⟨by assumption, by assumption⟩
theorem Ch.bel {w w' : World} {C k b T : Nat} {h : Bool} (hc : Ch w C k h T b) (hb : Below w.heap.size w w') : Ch w' C k h T b := hc.keep hb.size (fun q _ hq => hb.block q (by have := hc.lt; omega))
/-- The block of the node that the box holds. -/
def nodeOf (o : Option Value) : Nat := match o with | some (.iface _ (.pointer (some a))) => a.block | _ => 0
/-- The box of the loop's variable, turned to another expression. -/
theorem box_set {w : World} {B : Nat} {v0 l0 v l : Value} (h : w.heap[B]? = some (.cells #[v0, l0] 49 (0, 0))) : ((w.setCell ⟨B, 0, none⟩ v).setCell ⟨B, 1, none⟩ l).heap[B]? = some (.cells #[v, l] 49 (0, 0)) := by
  simp [World.setCell, Array.getElem?_modify, h]
theorem box_keep (w : World) (B : Nat) (v l : Value) : w.heap.size ≤ ((w.setCell ⟨B, 0, none⟩ v).setCell ⟨B, 1, none⟩ l).heap.size ∧ ∀ b, b ≠ B → ((w.setCell ⟨B, 0, none⟩ v).setCell ⟨B, 1, none⟩ l).heap[b]? = w.heap[b]? :=
  ⟨by simp [World.setCell], fun b hb => (Below.heap_setCell _ _ _ _ hb).trans (Below.heap_setCell _ _ _ _ hb)⟩
set_option maxRecDepth 100000 in
set_option maxHeartbeats 4000000 in
theorem dots15 (w : World) (g SB n k C b T : Nat) (dead hit : Bool) (pt : Option (Nat × Nat)) (U : Nat → Int) (m : Nat) (M : Value → Option Value) (loc : Int) (h : Ps w g SB n dead pt U m M) (hk : k < n) (hn : n ≤ 65536) (hM : Counts M) (hc : Ch w C k hit T b) :
    Calls Try.prog 15 #[.pointer (some ⟨g, 0, none⟩), .agg #[.iface T (.pointer (some ⟨b, 0, none⟩)), .int .i32 loc]] w (IgP w g SB n dead pt (endU U k (hit && !dead)) (endm m M k (hit && !dead) pt) (endM M k (hit && !dead) pt)) := by
  have H := Lib.hid h
  have HC := Lib.hid hc
  have HM := Lib.hid hM
  have hlt := hc.lt
  clear h hc hM
  go_enter Try.func15, Try.ntmps15
  go_wp2_with fail
  have HPs : Hid (Ps (w.alloc (.cells #[.iface T (.pointer (some ⟨b, 0, none⟩)), .int .i32 loc] 49)) g SB n dead pt U m M) := Lib.hid (H.out.below ((Below.refl _ _).alloc (Nat.le_refl _) _))
  have HCh : Hid (Ch (w.alloc (.cells #[.iface T (.pointer (some ⟨b, 0, none⟩)), .int .i32 loc] 49)) C k hit T b) := Lib.hid (HC.out.bel ((Below.refl _ _).alloc (Nat.le_refl _) _))
  have HB : Hid ((w.alloc (.cells #[.iface T (.pointer (some ⟨b, 0, none⟩)), .int .i32 loc] 49)).heap[w.heap.size]? = some (.cells #[.iface T (.pointer (some ⟨b, 0, none⟩)), .int .i32 loc] 49 (0, 0))) := Lib.hid (heap_alloc_new w _)
  have HT : Hid (Touch (fun b => b = SB ∨ ∃ p, pt = some p ∧ b = p.2) w (w.alloc (.cells #[.iface T (.pointer (some ⟨b, 0, none⟩)), .int .i32 loc] 49))) := Lib.hid ((Touch.refl _ w).alloc _)
  have HW : Hid (SB < w.heap.size ∧ g < w.heap.size ∧ ∀ p, pt = some p → p.1 < w.heap.size ∧ p.2 < w.heap.size) := Lib.hid ⟨H.out.lt, H.out.ltg, fun p hp => by obtain ⟨h1, h2, _⟩ := H.out.mp p hp; exact ⟨block_lt_of_cell h1, h2.lt⟩⟩
  generalize w.alloc (.cells #[.iface T (.pointer (some ⟨b, 0, none⟩)), .int .i32 loc] 49) = w1 at *
  go_loopw [] (fun wr => ∃ (b T : Nat) (loc : Int), Ps wr g SB n dead pt U m M ∧ Ch wr C k hit T b ∧ wr.heap[w.heap.size]? = some (.cells #[.iface T (.pointer (some ⟨b, 0, none⟩)), .int .i32 loc] 49 (0, 0)) ∧ Touch (fun b => b = SB ∨ ∃ p, pt = some p ∧ b = p.2) w wr ∧ b < w.heap.size) (fun wr => nodeOf (wr.cell? ⟨w.heap.size, 0, none⟩))
  case atStart => exact ⟨b, T, loc, HPs.out, HCh.out, HB.out, HT.out, hlt.2⟩
  case round =>
    clear HPs HCh HB HT H HC hlt
    obtain ⟨b, T, loc, hP, hc, hbx, hT, hb⟩ := hrel
    have HP := Lib.hid hP
    have HBX := Lib.hid hbx
    have HT := Lib.hid hT
    have hBl : w.heap.size < wr.heap.size := lt_of_block hbx
    have x0 := cell_of_row wr _ 0 _ _ _ hbx
    have x1 := cell_of_row wr _ 1 _ _ _ hbx
    have x2 := frozen_of_row wr _ 0 _ _ hbx
    have x3 := frozen_of_row wr _ 1 _ _ hbx
    simp only [List.getElem?_toArray, List.getElem?_cons_zero, List.getElem?_cons_succ] at x0 x1
    clear hP hbx hT
    have HNode : Hid (nodeOf (wr.cell? ⟨w.heap.size, 0, none⟩) = b) := Lib.hid (by rw [x0]; rfl)
    cases hc with
    | ident h1 h2 h3 h4 =>
      go_wp2_with fail
      refine (ig16 wr g SB n k dead pt U m M HP.out hk hn HM.out).mono ?_
      rintro e w' ⟨rfl, hP2, hT2⟩
      have HP2 := Lib.hid hP2
      have HT2 := Lib.hid hT2
      clear hP2 hT2
      go_simp
      go_wp2_with fail
      go_end0
      exact ⟨rfl, HP2.out, HT.out.trans HT2.out⟩
    | num h1 h2 =>
      go_wp2_with fail
      go_end0
      exact ⟨rfl, HP.out, HT.out⟩
    | one h1 h2 h3 =>
      go_wp2_with fail
      go_end0
      exact ⟨rfl, HP.out, HT.out⟩
    | call h1 h2 =>
      go_wp2_with fail
      go_end0
      exact ⟨rfl, HP.out, HT.out⟩
    | @dot _ b' T' _ loc' h1 h2 h3 h4 h5 h6 =>
      have HC := Lib.hid h6
      clear h6
      go_wp2_with fail
      go_roundw
      case rel =>
        have hk2 := box_keep wr w.heap.size (.iface T' (.pointer (some ⟨b', 0, none⟩))) (.int .i32 loc')
        refine ⟨b', T', loc', HP.out.keep hk2.1 (fun q hq hx => hk2.2 q ?_), HC.out.keep hk2.1 (fun q hq hq2 => hk2.2 q (by omega)), box_set HBX.out, (HT.out.setCell _ (fun hlt => by exfalso; simp at hlt) _).setCell _ (fun hlt => by exfalso; simp at hlt) _, by omega⟩
        obtain ⟨g1, g2, g3⟩ := HW.out
        rcases hx with rfl | rfl | ⟨p, hp, hx⟩
        · omega
        · omega
        · have := g3 p hp; omega
      case measure =>
        have e1 := cell_of_row _ _ 0 _ _ _ (box_set HBX.out (v := .iface T' (.pointer (some ⟨b', 0, none⟩))) (l := .int .i32 loc'))
        show nodeOf _ < nodeOf _
        rw [HNode.out]
        exact Nat.lt_of_le_of_lt (Nat.le_of_eq (congrArg nodeOf e1)) h3
    | @str _ b' T' _ x' loc' h1 h2 h3 h4 h5 h6 h7 =>
      have HC := Lib.hid h7
      clear h7
      go_wp2_with fail
      go_roundw
      case rel =>
        have hk2 := box_keep wr w.heap.size (.iface T' (.pointer (some ⟨b', 0, none⟩))) (.int .i32 loc')
        refine ⟨b', T', loc', HP.out.keep hk2.1 (fun q hq hx => hk2.2 q ?_), HC.out.keep hk2.1 (fun q hq hq2 => hk2.2 q (by omega)), box_set HBX.out, (HT.out.setCell _ (fun hlt => by exfalso; simp at hlt) _).setCell _ (fun hlt => by exfalso; simp at hlt) _, by omega⟩
        obtain ⟨g1, g2, g3⟩ := HW.out
        rcases hx with rfl | rfl | ⟨p, hp, hx⟩
        · omega
        · omega
        · have := g3 p hp; omega
      case measure =>
        have e1 := cell_of_row _ _ 0 _ _ _ (box_set HBX.out (v := .iface T' (.pointer (some ⟨b', 0, none⟩))) (l := .int .i32 loc'))
        show nodeOf _ < nodeOf _
        rw [HNode.out]
        exact Nat.lt_of_le_of_lt (Nat.le_of_eq (congrArg nodeOf e1)) h3
end Go.Proofs.Ytomgcoggplaklaa.ch
