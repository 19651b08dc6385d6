/-
  What the listed variables give the walks.
-/
import Derived.Test.YtkanbfphbgoekaaDoorShelf
import Derived.Test.YtkanbfphbgoekaaDoorRows
import Derived.ProofKit
import Derived.LaidMore
import Derived.OpenShut
import Derived.ShutString
import Derived.ChangeOld
import Derived.Below
import Derived.Stop.Joined
import Derived.Lay
import Derived.WideKeyElems
import Derived.WideKeyElems2
import Derived.Maps.StringElems
import Derived.Test.YtkanbfphbgoekaaDoorPl
namespace Go.Proofs.YtkanbfphbgoekaaDoor.mi
open Go.ChangeShapes Go.WideShapes Go.ChangeAt Go.WideMaps Go.WideElems Go.RowKit Go.Shelf Go.Lib
set_option linter.unusedVariables false
set_option linter.unusedSimpArgs false
set_option maxRecDepth 100000
set_option maxHeartbeats 4000000
abbrev lay : List (String × DataW Unit) := Rows.fnMimeTypeByExtensionIgnoresASCIICaseRow.laid
abbrev mapD6 : DataW Unit := Rows.laid_github_com_evanw_esbuild_internal_helpers_builtinTypesLower
theorem law9 : KeyLaw Tryd.prog 9 := string_law Tryd.underlying9
theorem zero9 (w : World) : (zeroValue 9).run Tryd.prog w = .ok (.string ByteArray.empty) w := by kernel_rfl
theorem gMap : Tryd.prog.globalNamed "github.com/evanw/esbuild/internal/helpers.builtinTypesLower" = some 0 := by kernel_rfl
theorem tMap : (Tryd.prog.globals[0]?).map (·.type) = some 27 := by kernel_rfl
/-- What the table says of a text. -/
def tb (l : List UInt8) : List UInt8 := match mapD6.atKey (.string l) .nil with | .lit (.string b) => b | _ => []
/-- The map variable as the walks see it. -/
def Mv (w : World) : Prop := ∃ bm, w.cell? ⟨0, 0, none⟩ = some (.map (some bm)) ∧ bm < w.heap.size ∧ ∀ w', w'.heap[bm]? = w.heap[bm]? → ∀ s : ByteArray, s.size ≤ maxLen → (Instr.lookup 27 (.map (some bm)) (.string s) false).run Tryd.prog w' = .ok (.string ⟨(tb s.data.toList).toArray⟩) w'
theorem of_laid {W : World} (h : laidMetH Tryd.prog lay W) : CaseVar 1 caseA W ∧ Lib.Utf8Tabs 3 4 W ∧ Mv W := by
  rw [MakeChecks.laidMetH_plain _ _ _ (by kernel_rfl)] at h
  have r1 := Lib.laidMet.reads h (n := "unicode/utf8.acceptRanges") (d := Rows.laid_unicode_utf8_acceptRanges) (.head _)
  have r2 := Lib.laidMet.reads h (n := "github.com/evanw/esbuild/internal/helpers.builtinTypesLower") (d := mapD6) (.tail _ (.head _))
  have r3 := Lib.laidMet.reads h (n := "unicode.CaseRanges") (d := Rows.laid_unicode_CaseRanges) (.tail _ (.tail _ (.head _)))
  have r4 := Lib.laidMet.reads h (n := "unicode/utf8.first") (d := Rows.laid_unicode_utf8_first) (.tail _ (.tail _ (.tail _ (.head _))))
  refine ⟨?_, ?_, ?_⟩
  · refine caseVar_of_reads (ρ := Tryd.lays159_ren) { Tryd.lays159 with } Tryd.lays159.t206 ⟨by kernel_rfl, by kernel_rfl, by kernel_rfl, by kernel_rfl, by kernel_rfl, by kernel_rfl⟩ ?_
    have e : Rows.laid_unicode_CaseRanges = caseData := Pinned.caseRanges_eq
    rw [e] at r3
    exact r3
  · refine utf8Tabs_of_reads (ρ := Tryd.lays159_ren) { Tryd.lays159 with } ⟨by kernel_rfl, by kernel_rfl, by kernel_rfl, by kernel_rfl, by kernel_rfl, by kernel_rfl, by kernel_rfl⟩ ?_ ?_
    · have e : Rows.laid_unicode_utf8_first = firstData := Pinned.utf8First_eq
      rw [e] at r4
      exact r4
    · have e : (Rows.laid_unicode_utf8_acceptRanges : DataW Unit) = acceptData := by kernel_rfl
      rw [e] at r1
      exact r1
  · obtain ⟨g0, t0, cs0, f0, p0, hg0, ht0, hv0, hd0⟩ := r2
    obtain rfl := Option.some.inj (gMap.symm.trans hg0)
    obtain rfl := Option.some.inj (tMap.symm.trans ht0)
    rcases open_map Tryd.underlying27 hd0 with ⟨_, hx⟩ | ⟨bm, es, clock, m, rfl, hcs, hb, _, F, hx⟩
    · simp [mapD6, Rows.laid_github_com_evanw_esbuild_internal_helpers_builtinTypesLower] at hx
    simp only [Prod.mk.injEq] at hx
    have hcell : W.cell? ⟨0, 0, none⟩ = some (.map (some bm)) := by
      have := World.var?_cell hg0 hv0 0
      rw [Array.eq_one_of_toList hcs] at this
      simpa using this
    refine ⟨bm, hcell, lt_of_block hb, fun w' hw s hs => ?_⟩
    rcases fit_lookup (w := w') law9 Tryd.underlying27 (zero9 w') (hw.trans hb) F (keyOf_string_mk (s := s) Tryd.underlying9 hs) with ⟨hrun, hat⟩ | ⟨v, y, hrun, hRv, hat, _⟩
    · have h1 := hat .nil
      rw [← hx.1] at h1
      have e : tb s.data.toList = [] := by unfold tb; rw [h1]
      rw [hrun, e]
      rfl
    · obtain ⟨b, rfl, rfl, _⟩ := WideElems.elemAt_string Tryd.underlying9 hRv
      have h1 := hat .nil
      rw [← hx.1] at h1
      have e : tb s.data.toList = b.data.toList := by unfold tb; rw [h1]
      rw [hrun, e]
end Go.Proofs.YtkanbfphbgoekaaDoor.mi
