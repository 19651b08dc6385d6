/-
  The walks of the second statement: the fold, the table, the law.
-/
import Derived.Test.YtkanbfphbgoekaaDoorWk
import Derived.Test.YtkanbfphbgoekaaDoorPm
import Derived.Maps.AppendAt
namespace Go.Proofs.YtkanbfphbgoekaaDoor.mi
open Go.ChangeShapes Go.WideShapes Go.ChangeAt Go.RowKit Go.Deep Go.Shelf Go.Lib Go.Proofs.YtkanbfphbgoekaaDoor.pl
set_option linter.unusedVariables false
set_option linter.unusedSimpArgs false
set_option maxRecDepth 100000
set_option maxHeartbeats 40000000
def keyB (s : ByteArray) : Bool := s.data.toList == [46, 99, 115, 115] || s.data.toList == [46, 104, 116, 109] || s.data.toList == [46, 104, 116, 109, 108] || s.data.toList == [46, 106, 115] || s.data.toList == [46, 109, 106, 115] || s.data.toList == [46, 106, 115, 111, 110] || s.data.toList == [46, 109, 97, 114, 107, 100, 111, 119, 110] || s.data.toList == [46, 109, 100] || s.data.toList == [46, 120, 104, 116, 109, 108] || s.data.toList == [46, 120, 109, 108] || s.data.toList == [46, 97, 118, 105, 102] || s.data.toList == [46, 103, 105, 102] || s.data.toList == [46, 106, 112, 101, 103] || s.data.toList == [46, 106, 112, 103] || s.data.toList == [46, 112, 110, 103] || s.data.toList == [46, 115, 118, 103] || s.data.toList == [46, 119, 101, 98, 112] || s.data.toList == [46, 109, 112, 51] || s.data.toList == [46, 101, 111, 116] || s.data.toList == [46, 111, 116, 102] || s.data.toList == [46, 115, 102, 110, 116] || s.data.toList == [46, 116, 116, 102] || s.data.toList == [46, 119, 111, 102, 102] || s.data.toList == [46, 119, 111, 102, 102, 50] || s.data.toList == [46, 112, 100, 102] || s.data.toList == [46, 119, 97, 115, 109] || s.data.toList == [46, 119, 101, 98, 109, 97, 110, 105, 102, 101, 115, 116]
theorem ents_keys : (ents.all fun p => match p.1 with | .string b => keyB ⟨b.toArray⟩ | _ => false) = true := by kernel_rfl
theorem ents_ascii : (ents.all fun p => match p.1 with | .string b => b.all fun x => decide (x.toNat < 128) | _ => false) = true := by kernel_rfl
theorem tb_ent {l : List UInt8} (h : tb l ≠ []) : ∃ d, (Lit.string l, d) ∈ ents := by
  unfold tb at h
  rw [mapD6_eq] at h
  unfold DataW.atKey at h
  simp only at h
  cases e : ents.find? (fun p => p.1.sameKey (.string l)) with
  | none => rw [e] at h; exact absurd rfl h
  | some p =>
    have hm := List.mem_of_find?_eq_some e
    have hk := List.find?_some e
    obtain ⟨k, d⟩ := p
    cases k <;> simp [Lit.sameKey] at hk
    subst hk
    exact ⟨d, hm⟩
theorem tb_no {s : ByteArray} (h : keyB s = false) : tb s.data.toList = [] := by
  rcases Classical.em (tb s.data.toList = []) with e | e
  · exact e
  · obtain ⟨d, hd⟩ := tb_ent e
    have ho := List.all_eq_true.1 ents_keys _ hd
    simp only at ho
    have : (⟨s.data.toList.toArray⟩ : ByteArray) = s := by simp
    rw [this, h] at ho
    cases ho
theorem tb_high {l : List UInt8} (h : ∃ b ∈ l, 128 ≤ b.toNat) : tb l = [] := by
  rcases Classical.em (tb l = []) with e | e
  · exact e
  · obtain ⟨d, hd⟩ := tb_ent e
    have ho := List.all_eq_true.1 ents_ascii _ hd
    simp only at ho
    obtain ⟨b, hb, hb2⟩ := h
    have := List.all_eq_true.1 ho b hb
    simp at this
    omega
theorem toList_data (s : ByteArray) : s.toList = s.data.toList := ByteArray.toList_eq s
theorem eqs {s : ByteArray} {k : List UInt8} (h : (s.toList == k) = true) : s = ⟨k.toArray⟩ := by
  have h1 : s.toList = k := by simpa using h
  rw [toList_data] at h1
  rw [← h1]
theorem table10 (w : World) (s : ByteArray) : Calls Tryd.prog 10 #[.string s] w fun e w' => e = .returned (Str (tb s.data.toList)) ∧ w = w' := by
  go_enter Tryd.func10, Tryd.ntmps10
  go_wp2_with fail
  all_goals go_ret
  all_goals refine ⟨?_, rfl⟩
  all_goals first | (rename_i h; have e := eqs h; subst e; rfl) | (exfalso; simp_all; done) | (have hk : keyB s = false := (by simp only [toList_data] at *; simp [keyB, *]); rw [tb_no hk]; rfl) | (trace_state; sorry)
end Go.Proofs.YtkanbfphbgoekaaDoor.mi
