/-
  What 'shouldLowerUsingDeclarations' answers.
-/
import Derived.Test.YtfkeeainklbfbaaPs

namespace Go.Proofs.Ytfkeeainklbfbaa.us
open Go.ChangeShapes Go.WideShapes Go.ChangeAt Go.RowKit Go.Deep
set_option linter.unusedVariables false

@[go_sem] theorem as133_165_yes (v : Value) (w : World) : (Instr.typeAssert (.iface 165 v) 133 165 true).run Try.prog w = .ok (.tuple #[v, .bool true]) w := by kernel_rfl
@[go_sem] theorem as133_165_nil (w : World) : (Instr.typeAssert .nilIface 133 165 true).run Try.prog w = .ok (.tuple #[.pointer none, .bool false]) w := by kernel_rfl
theorem as133_165_zero (w : World) : (do pure (Value.tuple #[← zeroValue 165, .bool false]) : Sem Value).run Try.prog w = .ok (.tuple #[.pointer none, .bool false]) w := by kernel_rfl
@[go_sem] theorem as133_165_no (u : TypeId) (v : Value) (w : World) (h : u ≠ 165) : (Instr.typeAssert (.iface u v) 133 165 true).run Try.prog w = .ok (.tuple #[.pointer none, .bool false]) w := by
  have e : (Instr.typeAssert (.iface u v) 133 165 true).run Try.prog w = (if u = 165 then (pure (Value.tuple #[v, .bool true]) : Sem Value) else (do pure (Value.tuple #[← zeroValue 165, .bool false]))).run Try.prog w := by kernel_rfl
  rw [e, if_neg h]
  exact as133_165_zero w

/-- Does any of the first n statements ask for it? -/
def anyTo (f : Int) (G : Bool) (Z : Nat → Int) (n : Nat) : Bool := (List.range n).any fun i => low f G ((Z i).tmod 8)
theorem anyTo_yes {f : Int} {G : Bool} {Z : Nat → Int} {n k : Nat} (hk : k < n) (h : low f G ((Z k).tmod 8) = true) : anyTo f G Z n = true := by
  simp only [anyTo, List.any_eq_true, List.mem_range]; exact ⟨k, hk, h⟩
theorem anyTo_no {f : Int} {G : Bool} {Z : Nat → Int} {n : Nat} (h : ∀ i, i < n → low f G ((Z i).tmod 8) = false) : anyTo f G Z n = false := by
  simp only [anyTo, List.any_eq_false, List.mem_range]; intro i hi; rw [h i hi]; simp
def Ans (w : World) (b : Bool) (e : Ending) (w' : World) : Prop := e = .returned (.bool b) ∧ Below w.heap.size w w'

set_option maxRecDepth 100000 in
set_option maxHeartbeats 4000000 in
theorem should (w0 w : World) (g : Nat) (f : Int) (G : Bool) (B len : Nat) (Z : Nat → Int) (hl : len ≤ 1048576) (hp : Par w g f G) (hs : Stms w0 B len len Z w) :
    Calls Try.prog 7 #[.pointer (some ⟨g, 0, none⟩), .slice (some ⟨B, 0, none⟩) len len] w (Ans w (anyTo f G Z len)) := by
  obtain ⟨Fn, hrow, hbel, hst⟩ := hs
  have HP := Lib.hid hp
  have HROW := Lib.hid hrow
  have HST := Lib.hid hst
  have hBl := hrow.lt
  clear hp hrow hbel hst
  go_enter Try.func7, Try.ntmps7
  go_wp2
  go_loopw [11] (fun v wr => ∃ k : Nat, k ≤ len ∧ v = .int .i64 k ∧ (∀ i, i < k → low f G ((Z i).tmod 8) = false) ∧ Below w.heap.size w wr) (fun v _ => len - (intOf v).toNat)
  case atStart => exact ⟨0, by omega, rfl, by intro i hi; omega, Below.refl _ _⟩
  case round =>
    obtain ⟨k, hk, rfl, hno, hb⟩ := hrel
    have HN := Lib.hid hno
    have HB := Lib.hid hb
    clear hno hb
    by_cases hlt : k < len
    · obtain ⟨c0, c1⟩ := St.cells (HROW.out.below HB.out hBl) hlt
      obtain ⟨p1, p2⟩ := HP.out.below HB.out
      have hg : g < wr.heap.size := block_lt_of_cell p1
      rcases (HST.out k hlt).below HB.out with ⟨h4, p, hBp, hv, hcp⟩ | ⟨h4, p, hv⟩
      · rw [hv] at c0
        have hpl : p < wr.heap.size := block_lt_of_cell hcp
        by_cases r3 : (Z k).tmod 8 = 3
        · rw [r3] at hcp
          have HR := Lib.hid r3
          clear r3 hv h4
          cases hu : H f 1152921504606846976 with
          | true =>
            have q1 : (bits .and .u64 f 1152921504606846976 != 0) = true := hu
            have HU := Lib.hid hu
            clear hu
            go_wp2
            go_ret
            exact ⟨by rw [anyTo_yes hlt (by rw [HR.out]; simp [low, HU.out])]; rfl, HB.out.alloc HB.out.size _⟩
          | false =>
            have q1 : (bits .and .u64 f 1152921504606846976 != 0) = false := hu
            have HU := Lib.hid hu
            clear hu
            go_wp2
            go_roundw
            case rel =>
              refine ⟨k + 1, by omega, by go_num, fun i hi => ?_, HB.out.alloc HB.out.size _⟩
              by_cases e : i = k
              · subst e; rw [HR.out]; simp [low, HU.out]
              · exact HN.out i (by omega)
            case measure => simp [intOf]; omega
        · by_cases r4 : (Z k).tmod 8 = 4
          · rw [r4] at hcp
            have HR := Lib.hid r4
            clear r3 r4 hv h4
            cases hu : H f 1152921504606846976 with
            | true =>
              have q1 : (bits .and .u64 f 1152921504606846976 != 0) = true := hu
              have HU := Lib.hid hu
              clear hu
              go_wp2
              go_ret
              exact ⟨by rw [anyTo_yes hlt (by rw [HR.out]; simp [low, HU.out])]; rfl, HB.out.alloc HB.out.size _⟩
            | false =>
              have q1 : (bits .and .u64 f 1152921504606846976 != 0) = false := hu
              have HU := Lib.hid hu
              clear hu
              cases h8 : H f 8 with
              | true =>
                have q2 : (bits .and .u64 f 8 != 0) = true := h8
                have H8 := Lib.hid h8
                clear h8
                go_wp2
                go_ret
                exact ⟨by rw [anyTo_yes hlt (by rw [HR.out]; simp [low, HU.out, H8.out])]; rfl, HB.out.alloc HB.out.size _⟩
              | false =>
                have q2 : (bits .and .u64 f 8 != 0) = false := h8
                have H8 := Lib.hid h8
                clear h8
                cases h16 : H f 16 with
                | true =>
                  have q3 : (bits .and .u64 f 16 != 0) = true := h16
                  have H16 := Lib.hid h16
                  clear h16
                  cases G with
                  | true =>
                    go_wp2
                    go_ret
                    exact ⟨by rw [anyTo_yes hlt (by rw [HR.out]; simp [low, HU.out, H8.out, H16.out])]; rfl, HB.out.alloc HB.out.size _⟩
                  | false =>
                    go_wp2
                    go_roundw
                    case rel =>
                      refine ⟨k + 1, by omega, by go_num, fun i hi => ?_, HB.out.alloc HB.out.size _⟩
                      by_cases e : i = k
                      · subst e; rw [HR.out]; simp [low, HU.out, H8.out, H16.out]
                      · exact HN.out i (by omega)
                    case measure => simp [intOf]; omega
                | false =>
                  have q3 : (bits .and .u64 f 16 != 0) = false := h16
                  have H16 := Lib.hid h16
                  clear h16
                  go_wp2
                  go_roundw
                  case rel =>
                    refine ⟨k + 1, by omega, by go_num, fun i hi => ?_, HB.out.alloc HB.out.size _⟩
                    by_cases e : i = k
                    · subst e; rw [HR.out]; simp [low, HU.out, H8.out, H16.out]
                    · exact HN.out i (by omega)
                  case measure => simp [intOf]; omega
          · have HR3 := Lib.hid r3
            have HR4 := Lib.hid r4
            clear hv h4
            go_wp2
            go_roundw
            case rel =>
              refine ⟨k + 1, by omega, by go_num, fun i hi => ?_, HB.out.alloc HB.out.size _⟩
              by_cases e : i = k
              · subst e; simp [low, HR3.out, HR4.out]
              · exact HN.out i (by omega)
            case measure => simp [intOf]; omega
      · rw [hv] at c0
        have HR4 := Lib.hid h4
        clear hv h4
        go_wp2
        go_roundw
        case rel =>
          refine ⟨k + 1, by omega, by go_num, fun i hi => ?_, HB.out.alloc HB.out.size _⟩
          by_cases e : i = k
          · subst e; have h1 := HR4.out; have h3 : ¬ (Z i).tmod 8 = 3 := by omega
            have h4 : ¬ (Z i).tmod 8 = 4 := by omega
            simp [low, h3, h4]
          · exact HN.out i (by omega)
        case measure => simp [intOf]; omega
    · obtain rfl : k = len := by omega
      go_wp2
      go_ret
      exact ⟨by rw [anyTo_no HN.out]; rfl, HB.out⟩
end Go.Proofs.Ytfkeeainklbfbaa.us
