/-
  Options: three configs are counted.
-/
import Derived.Test.YtbebfpmnekbldaaOs

namespace Go.Proofs.Ytbebfpmnekbldaa.op
open Go.ChangeShapes Go.WideShapes Go.ChangeAt Go.RowKit Go.Deep
set_option linter.unusedVariables false
set_option linter.unusedSimpArgs false
set_option maxRecDepth 100000
set_option maxHeartbeats 4000000
theorem bytes15 (w : World) (c1 c2 c3 : Cfg) (h1 : c1.ok w) (h2 : c2.ok w) (h3 : c3.ok w) : Calls Try.prog 15 #[.agg c1.arr, .agg c2.arr, .agg c3.arr] w (SomeB w) := by
  have HC1 := Lib.hid h1.2.2.2.1
  have HC2 := Lib.hid h2.2.2.2.1
  have HC3 := Lib.hid h3.2.2.2.1
  have hm1 := h1.2.2.1
  have hm2 := h2.2.2.1
  have hm3 := h3.2.2.1
  clear h1 h2 h3
  unfold maxLen at hm1 hm2 hm3
  obtain ⟨n1, env1, f1, g1, h1, mn1, rn1, la1, ln1, lc1, V1⟩ := c1
  obtain ⟨n2, env2, f2, g2, h2, mn2, rn2, la2, ln2, lc2, V2⟩ := c2
  obtain ⟨n3, env3, f3, g3, h3, mn3, rn3, la3, ln3, lc3, V3⟩ := c3
  simp only [] at HC1 HC2 HC3 hm1 hm2 hm3
  show Calls Try.prog 15 #[.agg #[.int .u16 n1, .string env1, .int .u64 f1, .int .u64 g1, .int .u64 h1, .bool mn1, .bool rn1, .slice la1 ln1 lc1], .agg #[.int .u16 n2, .string env2, .int .u64 f2, .int .u64 g2, .int .u64 h2, .bool mn2, .bool rn2, .slice la2 ln2 lc2], .agg #[.int .u16 n3, .string env3, .int .u64 f3, .int .u64 g3, .int .u64 h3, .bool mn3, .bool rn3, .slice la3 ln3 lc3]] w (SomeB w)
  have HW : Hid (Below w.heap.size w (((w.alloc (.cells #[.int .u16 n1, .string env1, .int .u64 f1, .int .u64 g1, .int .u64 h1, .bool mn1, .bool rn1, .slice la1 ln1 lc1] 65)).alloc (.cells #[.int .u16 n2, .string env2, .int .u64 f2, .int .u64 g2, .int .u64 h2, .bool mn2, .bool rn2, .slice la2 ln2 lc2] 65)).alloc (.cells #[.int .u16 n3, .string env3, .int .u64 f3, .int .u64 g3, .int .u64 h3, .bool mn3, .bool rn3, .slice la3 ln3 lc3] 65))) := Lib.hid ((((Below.refl _ _).alloc (Nat.le_refl _) _).alloc (by simp) _).alloc (by simp; omega) _)
  go_enter Try.func15, Try.ntmps15
  by_cases q1 : ln1 ≤ 1048576
  rotate_left
  · go_wp2
    all_goals (go_ret; exact ⟨⟨_, rfl⟩, HW.out⟩)
  go_wp2
  any_goals (go_ret; exact ⟨⟨_, rfl⟩, HW.out⟩)
  go_loopw [7, 8] (fun nn ii wr => ∃ (k : Nat) (x : Int), k ≤ ln1 ∧ ii = .int .i64 k ∧ nn = .int .i64 x ∧ ((w.alloc (.cells #[.int .u16 n1, .string env1, .int .u64 f1, .int .u64 g1, .int .u64 h1, .bool mn1, .bool rn1, .slice la1 ln1 lc1] 65)).alloc (.cells #[.int .u16 n2, .string env2, .int .u64 f2, .int .u64 g2, .int .u64 h2, .bool mn2, .bool rn2, .slice la2 ln2 lc2] 65)).alloc (.cells #[.int .u16 n3, .string env3, .int .u64 f3, .int .u64 g3, .int .u64 h3, .bool mn3, .bool rn3, .slice la3 ln3 lc3] 65) = wr) (fun _ ii _ => ln1 - (intOf ii).toNat)
  case atStart => exact ⟨0, _, by omega, rfl, rfl, rfl⟩
  case round =>
    obtain ⟨k, x, hk, rfl, rfl, rfl⟩ := hrel
    by_cases hlt : k < ln1
    · obtain ⟨b, off, rfl, hcell⟩ := HC1.out (by omega)
      have c1' := hcell k hlt
      have hbl : b < w.heap.size := block_lt_of_cell c1'
      have hbl2 : b < w.heap.size + 1 := by omega
      have hbl3 : b < w.heap.size + 1 + 1 := by omega
      simp only [] at c1'
      clear hcell
      go_wp2
      all_goals first | (go_ret; exact ⟨⟨_, rfl⟩, HW.out⟩) | (go_roundw; (case rel => exact ⟨k + 1, _, by omega, by go_num, rfl, trivial⟩); (case measure => simp [intOf]; omega))
    · obtain rfl : ln1 = k := by omega
      by_cases q2 : ln2 ≤ 1048576
      rotate_left
      · go_wp2
        all_goals (go_ret; exact ⟨⟨_, rfl⟩, HW.out⟩)
      go_wp2
      any_goals (go_ret; exact ⟨⟨_, rfl⟩, HW.out⟩)
      go_loopw [7, 9] (fun nn ii wr => ∃ (k : Nat) (x : Int), k ≤ ln2 ∧ ii = .int .i64 k ∧ nn = .int .i64 x ∧ ((w.alloc (.cells #[.int .u16 n1, .string env1, .int .u64 f1, .int .u64 g1, .int .u64 h1, .bool mn1, .bool rn1, .slice la1 ln1 lc1] 65)).alloc (.cells #[.int .u16 n2, .string env2, .int .u64 f2, .int .u64 g2, .int .u64 h2, .bool mn2, .bool rn2, .slice la2 ln2 lc2] 65)).alloc (.cells #[.int .u16 n3, .string env3, .int .u64 f3, .int .u64 g3, .int .u64 h3, .bool mn3, .bool rn3, .slice la3 ln3 lc3] 65) = wr) (fun _ ii _ => ln2 - (intOf ii).toNat)
      case atStart => exact ⟨0, _, by omega, rfl, rfl, rfl⟩
      case round =>
        obtain ⟨k, x, hk, rfl, rfl, rfl⟩ := hrel
        by_cases hlt : k < ln2
        · obtain ⟨b, off, rfl, hcell⟩ := HC2.out (by omega)
          have c1' := hcell k hlt
          have hbl : b < w.heap.size := block_lt_of_cell c1'
          have hbl2 : b < w.heap.size + 1 := by omega
          have hbl3 : b < w.heap.size + 1 + 1 := by omega
          simp only [] at c1'
          clear hcell
          go_wp2
          all_goals first | (go_ret; exact ⟨⟨_, rfl⟩, HW.out⟩) | (go_roundw; (case rel => exact ⟨k + 1, _, by omega, by go_num, rfl, trivial⟩); (case measure => simp [intOf]; omega))
        · obtain rfl : ln2 = k := by omega
          by_cases q3 : ln3 ≤ 1048576
          rotate_left
          · go_wp2
            all_goals (go_ret; exact ⟨⟨_, rfl⟩, HW.out⟩)
          go_wp2
          any_goals (go_ret; exact ⟨⟨_, rfl⟩, HW.out⟩)
          go_loopw [7, 10] (fun nn ii wr => ∃ (k : Nat) (x : Int), k ≤ ln3 ∧ ii = .int .i64 k ∧ nn = .int .i64 x ∧ ((w.alloc (.cells #[.int .u16 n1, .string env1, .int .u64 f1, .int .u64 g1, .int .u64 h1, .bool mn1, .bool rn1, .slice la1 ln1 lc1] 65)).alloc (.cells #[.int .u16 n2, .string env2, .int .u64 f2, .int .u64 g2, .int .u64 h2, .bool mn2, .bool rn2, .slice la2 ln2 lc2] 65)).alloc (.cells #[.int .u16 n3, .string env3, .int .u64 f3, .int .u64 g3, .int .u64 h3, .bool mn3, .bool rn3, .slice la3 ln3 lc3] 65) = wr) (fun _ ii _ => ln3 - (intOf ii).toNat)
          case atStart => exact ⟨0, _, by omega, rfl, rfl, rfl⟩
          case round =>
            obtain ⟨k, x, hk, rfl, rfl, rfl⟩ := hrel
            by_cases hlt : k < ln3
            · obtain ⟨b, off, rfl, hcell⟩ := HC3.out (by omega)
              have c1' := hcell k hlt
              have hbl : b < w.heap.size := block_lt_of_cell c1'
              have hbl2 : b < w.heap.size + 1 := by omega
              have hbl3 : b < w.heap.size + 1 + 1 := by omega
              simp only [] at c1'
              clear hcell
              go_wp2
              all_goals first | (go_ret; exact ⟨⟨_, rfl⟩, HW.out⟩) | (go_roundw; (case rel => exact ⟨k + 1, _, by omega, by go_num, rfl, trivial⟩); (case measure => simp [intOf]; omega))
            · obtain rfl : ln3 = k := by omega
              go_wp2
              go_ret
              exact ⟨⟨_, rfl⟩, HW.out⟩
end Go.Proofs.Ytbebfpmnekbldaa.op
