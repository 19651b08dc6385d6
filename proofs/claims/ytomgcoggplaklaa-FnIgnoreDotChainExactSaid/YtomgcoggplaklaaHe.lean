/-
  Chains of expressions: the law's helpers.
-/
import Derived.Test.YtomgcoggplaklaaDo
namespace Go.Proofs.Ytomgcoggplaklaa.ch
open Go.ChangeShapes Go.WideShapes Go.ChangeAt Go.RowKit Go.Deep Go.Proofs.Ytomgcoggplaklaa.mk
set_option linter.unusedVariables false
set_option linter.unusedSimpArgs false

/-- What a maker of nodes hands back. -/
def NodeP (w : World) (C k : Nat) (hit : Bool) (T : Nat) (e : Ending) (w' : World) : Prop :=
  ∃ b, e = .returned (.agg #[.iface T (.pointer (some ⟨b, 0, none⟩)), .int .i32 0]) ∧ Ch w' C k hit T b ∧ Below w.heap.size w w'
theorem blk3 (w : World) (a b : Obj) (cs : Array Value) (t : TypeId) : (((w.alloc a).alloc b).alloc (.cells cs t)).heap[w.heap.size + 1 + 1]? = some (.cells cs t (0, 0)) := by
  have s2 : ((w.alloc a).alloc b).heap.size = w.heap.size + 1 + 1 := by simp
  rw [← s2]; exact heap_alloc_new _ _
theorem bel3 (w : World) (a b c : Obj) : Below w.heap.size w (((w.alloc a).alloc b).alloc c) := (((Below.refl _ _).alloc (Nat.le_refl _) _).alloc (by simp) _).alloc (by simp; omega) _
theorem blk4 (w : World) (a b c : Obj) (cs : Array Value) (t : TypeId) : ((((w.alloc a).alloc b).alloc c).alloc (.cells cs t)).heap[w.heap.size + 1 + 1 + 1]? = some (.cells cs t (0, 0)) := by
  have s2 : (((w.alloc a).alloc b).alloc c).heap.size = w.heap.size + 1 + 1 + 1 := by simp
  rw [← s2]; exact heap_alloc_new _ _
theorem bel4 (w : World) (a b c d : Obj) : Below w.heap.size w ((((w.alloc a).alloc b).alloc c).alloc d) := (bel3 w a b c).alloc (by simp; omega) _
set_option maxRecDepth 100000 in
set_option maxHeartbeats 2000000 in
theorem ident7 (w : World) (C k : Nat) (hC : C ≤ w.heap.size) : Calls Try.prog 7 #[.agg #[.int .u32 0, .int .u32 k]] w (NodeP w C k true 189) := by
  go_enter Try.func7, Try.ntmps7
  go_wp2
  refine bodyPost_ret (v := .agg #[.iface 189 (.pointer (some ⟨w.heap.size + 1 + 1, 0, none⟩)), .int .i32 0]) (by simp [results, Try.results7, go_sem]) rfl ⟨w.heap.size + 1 + 1, rfl, ?_, ?_⟩
  · exact .ident (by omega) (by simp) (cell_of_row _ _ 0 _ _ _ (blk3 ..)) (cell_of_row _ _ 1 _ _ _ (blk3 ..))
  · exact bel3 ..
set_option maxRecDepth 100000 in
set_option maxHeartbeats 2000000 in
theorem num8 (w : World) (C k : Nat) (hC : C ≤ w.heap.size) : Calls Try.prog 8 #[.agg #[.int .i32 0]] w (NodeP w C k false 192) := by
  go_enter Try.func8, Try.ntmps8
  go_wp2
  refine bodyPost_ret (v := .agg #[.iface 192 (.pointer (some ⟨w.heap.size + 1 + 1, 0, none⟩)), .int .i32 0]) (by simp [results, Try.results8, go_sem]) rfl ⟨w.heap.size + 1 + 1, rfl, ?_, ?_⟩
  · exact .num (by omega) (by simp)
  · exact bel3 ..
set_option maxRecDepth 100000 in
set_option maxHeartbeats 2000000 in
theorem dot9 (w : World) (C k T b : Nat) (hit : Bool) (hC : C ≤ w.heap.size) (h : Ch w C k hit T b) : Calls Try.prog 9 #[.agg #[.iface T (.pointer (some ⟨b, 0, none⟩)), .int .i32 0]] w (NodeP w C k hit 195) := by
  have H := Lib.hid h
  clear h
  go_enter Try.func9, Try.ntmps9
  go_wp2
  refine bodyPost_ret (v := .agg #[.iface 195 (.pointer (some ⟨w.heap.size + 1 + 1, 0, none⟩)), .int .i32 0]) (by simp [results, Try.results9, go_sem]) rfl ⟨w.heap.size + 1 + 1, rfl, ?_, ?_⟩
  · exact .dot (by omega) (by simp) (by have := H.out.lt; omega) (cell_of_row _ _ 0 _ _ _ (blk3 ..)) (cell_of_row _ _ 1 _ _ _ (blk3 ..)) (H.out.bel (bel3 ..))
  · exact bel3 ..
set_option maxRecDepth 100000 in
set_option maxHeartbeats 2000000 in
theorem str10 (w : World) (C k T b : Nat) (hit : Bool) (hC : C ≤ w.heap.size) (h : Ch w C k hit T b) : Calls Try.prog 10 #[.agg #[.iface T (.pointer (some ⟨b, 0, none⟩)), .int .i32 0]] w (NodeP w C k hit 199) := by
  have H := Lib.hid h
  clear h
  go_enter Try.func10, Try.ntmps10
  go_wp2
  refine bodyPost_ret (v := .agg #[.iface 199 (.pointer (some ⟨w.heap.size + 1 + 1 + 1, 0, none⟩)), .int .i32 0]) (by simp [results, Try.results10, go_sem]) rfl ⟨w.heap.size + 1 + 1 + 1, rfl, ?_, ?_⟩
  · exact .str (by omega) (by simp) (by have := H.out.lt; omega) (cell_of_row _ _ 0 _ _ _ (blk4 ..)) (cell_of_row _ _ 1 _ _ _ (blk4 ..)) (cell_of_row _ _ 2 _ _ _ (blk4 ..)) (H.out.bel (bel4 ..))
  · exact bel4 ..
set_option maxRecDepth 100000 in
set_option maxHeartbeats 2000000 in
theorem call12 (w : World) (C k T b : Nat) (hC : C ≤ w.heap.size) : Calls Try.prog 12 #[.agg #[.iface T (.pointer (some ⟨b, 0, none⟩)), .int .i32 0]] w (NodeP w C k false 205) := by
  go_enter Try.func12, Try.ntmps12
  go_wp2
  refine bodyPost_ret (v := .agg #[.iface 205 (.pointer (some ⟨w.heap.size + 1 + 1, 0, none⟩)), .int .i32 0]) (by simp [results, Try.results12, go_sem]) rfl ⟨w.heap.size + 1 + 1, rfl, ?_, ?_⟩
  · exact .call (by omega) (by simp)
  · exact bel3 ..
set_option maxRecDepth 100000 in
set_option maxHeartbeats 2000000 in
theorem num8x (w : World) : Calls Try.prog 8 #[.agg #[.int .i32 0]] w (fun e w' => (∃ b, e = .returned (.agg #[.iface 192 (.pointer (some ⟨b, 0, none⟩)), .int .i32 0])) ∧ Below w.heap.size w w') :=
  (num8 w 0 0 (Nat.zero_le _)).mono fun e w' ⟨b, he, _, hb⟩ => ⟨⟨b, he⟩, hb⟩
set_option maxRecDepth 100000 in
set_option maxHeartbeats 2000000 in
theorem one11 (w : World) (C k T b : Nat) (hC : C ≤ w.heap.size) : Calls Try.prog 11 #[.agg #[.iface T (.pointer (some ⟨b, 0, none⟩)), .int .i32 0]] w (NodeP w C k false 199) := by
  go_enter Try.func11, Try.ntmps11
  go_wp2_with fail
  have c0 : ((w.alloc (.cells #[.iface T (.pointer (some ⟨b, 0, none⟩)), .int .i32 0] 49)).alloc (.cells #[.nilIface, .int .i32 0] 49)).cell? ⟨w.heap.size, 0, none⟩ = some (.iface T (.pointer (some ⟨b, 0, none⟩))) := by go_simp
  have c1 : ((w.alloc (.cells #[.iface T (.pointer (some ⟨b, 0, none⟩)), .int .i32 0] 49)).alloc (.cells #[.nilIface, .int .i32 0] 49)).cell? ⟨w.heap.size, 1, none⟩ = some (.int .i32 0) := by go_simp
  have c2 : ((w.alloc (.cells #[.iface T (.pointer (some ⟨b, 0, none⟩)), .int .i32 0] 49)).alloc (.cells #[.nilIface, .int .i32 0] 49)).cell? ⟨w.heap.size + 1, 0, none⟩ = some .nilIface := by go_simp
  have c3 : ((w.alloc (.cells #[.iface T (.pointer (some ⟨b, 0, none⟩)), .int .i32 0] 49)).alloc (.cells #[.nilIface, .int .i32 0] 49)).cell? ⟨w.heap.size + 1, 1, none⟩ = some (.int .i32 0) := by go_simp
  have f2 : ((w.alloc (.cells #[.iface T (.pointer (some ⟨b, 0, none⟩)), .int .i32 0] 49)).alloc (.cells #[.nilIface, .int .i32 0] 49)).frozen? ⟨w.heap.size + 1, 0, none⟩ = false := by go_simp
  have f3 : ((w.alloc (.cells #[.iface T (.pointer (some ⟨b, 0, none⟩)), .int .i32 0] 49)).alloc (.cells #[.nilIface, .int .i32 0] 49)).frozen? ⟨w.heap.size + 1, 1, none⟩ = false := by go_simp
  have HB : Hid (Below w.heap.size w ((w.alloc (.cells #[.iface T (.pointer (some ⟨b, 0, none⟩)), .int .i32 0] 49)).alloc (.cells #[.nilIface, .int .i32 0] 49))) := Lib.hid (((Below.refl _ _).alloc (Nat.le_refl _) _).alloc (by simp) _)
  have hs : ((w.alloc (.cells #[.iface T (.pointer (some ⟨b, 0, none⟩)), .int .i32 0] 49)).alloc (.cells #[.nilIface, .int .i32 0] 49)).heap.size = w.heap.size + 2 := by simp
  generalize ((w.alloc (.cells #[.iface T (.pointer (some ⟨b, 0, none⟩)), .int .i32 0] 49)).alloc (.cells #[.nilIface, .int .i32 0] 49)) = w1 at *
  have hs1 : w.heap.size < w1.heap.size := by omega
  have hs2 : w.heap.size + 1 < w1.heap.size := by omega
  have HS := Lib.hid hs
  clear hs
  go_region_with (go_at_call 8; go_loud (refine (num8x _).mono ?_; rintro e w2 ⟨⟨b2, rfl⟩, hb2⟩; have e0 := (hb2.cell (p := ⟨w.heap.size, 0, none⟩) hs1).trans c0; have e1 := (hb2.cell (p := ⟨w.heap.size, 1, none⟩) hs1).trans c1; have e2 := (hb2.cell (p := ⟨w.heap.size + 1, 0, none⟩) hs2).trans c2; have e3 := (hb2.cell (p := ⟨w.heap.size + 1, 1, none⟩) hs2).trans c3; have g2 := (hb2.frozen (p := ⟨w.heap.size + 1, 0, none⟩) hs2).trans f2; have g3 := (hb2.frozen (p := ⟨w.heap.size + 1, 1, none⟩) hs2).trans f3; have HB2 := Lib.hid hb2; have hs3 : w.heap.size + 1 < w2.heap.size := Nat.lt_of_lt_of_le hs2 hb2.size; have hs4 : w.heap.size < w2.heap.size := Nat.lt_of_lt_of_le hs1 hb2.size; clear hb2))
  all_goals
    go_wp2_with fail
    refine bodyPost_ret (v := .agg #[.iface 199 (.pointer (some ⟨w2.heap.size, 0, none⟩)), .int .i32 0]) (by simp [results, Try.results11, go_sem, e2, e3, g2, g3, hs3]) rfl ⟨w2.heap.size, rfl, ?_, ?_⟩
    · have hs5 := HB2.out.size
      refine .one (by omega) (by simp [World.setCell]) (x := .pointer (some ⟨b2, 0, none⟩)) ?_
      have hsz : ((w2.setCell ⟨w.heap.size + 1, 0, none⟩ (.iface 199 (.pointer (some ⟨w2.heap.size, 0, none⟩)))).setCell ⟨w.heap.size + 1, 1, none⟩ (.int .i32 0)).heap.size = w2.heap.size := by simp [World.setCell]
      have := heap_alloc_new ((w2.setCell ⟨w.heap.size + 1, 0, none⟩ (.iface 199 (.pointer (some ⟨w2.heap.size, 0, none⟩)))).setCell ⟨w.heap.size + 1, 1, none⟩ (.int .i32 0)) (.cells #[.iface T (.pointer (some ⟨b, 0, none⟩)), .int .i32 0, .iface 192 (.pointer (some ⟨b2, 0, none⟩)), .int .i32 0, .int .i32 0, .int .u8 0, .bool false, .bool false, .bool false] 204)
      rw [hsz] at this
      exact cell_of_row _ _ 2 _ _ _ this
    · have hsa := HS.out
      have hd : Below w1.heap.size w1 w1.drew := ⟨rfl, rfl, rfl, Nat.le_refl _, fun _ _ => rfl⟩
      have h12 : Below w.heap.size w w2 := HB.out.trans ((hd.trans HB2.out).mono (by omega))
      have hsz : ((w2.setCell ⟨w.heap.size + 1, 0, none⟩ (.iface 199 (.pointer (some ⟨w2.heap.size, 0, none⟩)))).setCell ⟨w.heap.size + 1, 1, none⟩ (.int .i32 0)).heap.size = w2.heap.size := by simp [World.setCell]
      have h13 : Below w.heap.size w ((w2.setCell ⟨w.heap.size + 1, 0, none⟩ (.iface 199 (.pointer (some ⟨w2.heap.size, 0, none⟩)))).setCell ⟨w.heap.size + 1, 1, none⟩ (.int .i32 0)) := by
        refine h12.trans ⟨rfl, rfl, rfl, by rw [hsz]; exact Nat.le_refl _, fun q hq => ?_⟩
        exact (Below.heap_setCell _ _ _ _ (by show q ≠ w.heap.size + 1; omega)).trans (Below.heap_setCell _ _ _ _ (by show q ≠ w.heap.size + 1; omega))
      exact h13.alloc h13.size _
set_option maxRecDepth 100000 in
set_option maxHeartbeats 2000000 in
theorem ig13 (w : World) (g SB n k C b T : Nat) (dead hit : Bool) (pt : Option (Nat × Nat)) (U : Nat → Int) (m : Nat) (M : Value → Option Value) (h : Ps w g SB n dead pt U m M) (hk : k < n) (hn : n ≤ 65536) (hM : Counts M) (hc : Ch w C k hit T b) :
    Calls Try.prog 13 #[.pointer (some ⟨g, 0, none⟩), .agg #[.iface T (.pointer (some ⟨b, 0, none⟩)), .int .i32 0]] w (IgP w g SB n dead pt (endU U k (hit && !dead)) (endm m M k (hit && !dead) pt) (endM M k (hit && !dead) pt)) := by
  have HC := Lib.hid (dots15 (w.alloc (.cells #[.iface T (.pointer (some ⟨b, 0, none⟩)), .int .i32 0] 49)) g SB n k C b T dead hit pt U m M 0 (h.alloc _) hk hn hM (hc.bel ((Below.refl _ _).alloc (Nat.le_refl _) _)))
  clear h hM hc
  go_enter Try.func13, Try.ntmps13
  go_wp2_with fail
  refine HC.out.mono ?_
  rintro e w' ⟨rfl, hP, hT⟩
  have HP := Lib.hid hP
  have HT := Lib.hid hT
  clear hP hT
  go_simp
  go_wp2_with fail
  go_end0
  exact ⟨rfl, HP.out, ((Touch.refl _ w).alloc _).trans HT.out⟩
theorem info63 : (Try.prog.info? 63).map (fun i => (i.zero.map (·.cells), i.size, i.bytes)) = some (some #[.pointer none, .string ByteArray.empty, .int .u32 0, .int .u32 0, .int .u32 0, .int .u32 0, .int .u32 0, .int .u16 0, .int .u8 0, .int .u8 0], 10, 48) := by kernel_rfl
def symz (n : Nat) : Array Value := madeCells #[.pointer none, .string ByteArray.empty, .int .u32 0, .int .u32 0, .int .u32 0, .int .u32 0, .int .u32 0, .int .u16 0, .int .u8 0, .int .u8 0] (n * 10)
theorem symz_get (n i : Nat) (hi : i < n) : (symz n)[i * 10 + 4]? = some (.int .u32 0) := by
  have h : i * 10 + 4 < n * 10 := by omega
  simp [symz, madeCells, h, Nat.add_mod, Nat.mul_mod_left]
theorem made26 (n : Nat) (hn : n ≤ 65536) (w : World) : (Instr.makeSlice 26 (.int .i64 n) (.int .i64 n)).run Try.prog w = .ok (.slice (some ⟨w.heap.size, 0, none⟩) n n) (w.alloc (.cells (symz n) 63)) := by
  obtain ⟨i, hi, hz⟩ := Option.map_eq_some_iff.1 info63
  simp only [Prod.mk.injEq] at hz
  obtain ⟨h1, h2, h3⟩ := hz
  obtain ⟨z, hz, hzc⟩ := Option.map_eq_some_iff.1 h1
  have hr := run_make (P := Try.prog) w 26 63 i z Try.underlying26 hi hz .i64 .i64 n n (by omega) (Int.le_refl _) (by rw [h3]; omega) (by omega)
  simp only [Int.toNat_natCast, hzc, h2] at hr
  exact hr
/-- The symbols made out of the counts. -/
def SymP (w : World) (n : Nat) (U : Nat → Int) (e : Ending) (w' : World) : Prop :=
  ∃ SB, e = .returned (.slice (some ⟨SB, 0, none⟩) n n) ∧ w.heap.size ≤ SB ∧ SB < w'.heap.size ∧ (∀ i, i < n → w'.cell? ⟨SB, i * 10 + 4, none⟩ = some (.int .u32 (U i))) ∧ (∀ o, w'.frozen? ⟨SB, o, none⟩ = false) ∧ Below w.heap.size w w'
set_option maxRecDepth 100000 in
set_option maxHeartbeats 2000000 in
theorem syms5 (w : World) (a : Option Addr) (n cap : Nat) (U : Nat → Int) (hn : n ≤ 65536) (hc : Row w a n fun i => .int .u32 (U i)) : Calls Try.prog 5 #[.slice a n cap] w (SymP w n U) := by
  have HC := Lib.hid hc
  clear hc
  have hmk := made26 n hn
  go_enter Try.func5, Try.ntmps5
  go_wp2_with fail
  clear hmk
  have HB0 : Hid (Below w.heap.size w (w.alloc (.cells (symz n) 63))) := Lib.hid ((Below.refl _ _).alloc (Nat.le_refl _) _)
  have HK0 : Hid ((∀ i, i < n → ∃ v, (w.alloc (.cells (symz n) 63)).cell? ⟨w.heap.size, i * 10 + 4, none⟩ = some v) ∧ ∀ o, (w.alloc (.cells (symz n) 63)).frozen? ⟨w.heap.size, o, none⟩ = false) := Lib.hid ⟨fun i hi => ⟨_, (cell_of_row _ _ _ _ _ _ (heap_alloc_new w _)).trans (symz_get n i hi)⟩, fun o => frozen_of_row _ _ _ _ _ (heap_alloc_new w _)⟩
  have hs0 : w.heap.size < (w.alloc (.cells (symz n) 63)).heap.size := by simp
  have HS0 := Lib.hid hs0
  clear hs0
  generalize w.alloc (.cells (symz n) 63) = w1 at *
  go_loopw [4] (fun i wr => ∃ k : Nat, k ≤ n ∧ i = .int .i64 k ∧ (∀ i, i < k → wr.cell? ⟨w.heap.size, i * 10 + 4, none⟩ = some (.int .u32 (U i))) ∧ (∀ i, i < n → ∃ v, wr.cell? ⟨w.heap.size, i * 10 + 4, none⟩ = some v) ∧ (∀ o, wr.frozen? ⟨w.heap.size, o, none⟩ = false) ∧ Below w.heap.size w wr ∧ w.heap.size < wr.heap.size) (fun i _ => n - (intOf i).toNat)
  case atStart => exact ⟨0, by omega, rfl, fun i hi => by omega, HK0.out.1, HK0.out.2, HB0.out, HS0.out⟩
  case round =>
    clear HB0 HK0 HS0
    obtain ⟨k, hk, rfl, h1, h2, h3, h4, h5⟩ := hrel
    have H1 := Lib.hid h1
    have H2 := Lib.hid h2
    have H3 := Lib.hid h3
    have H4 := Lib.hid h4
    have H5 := Lib.hid h5
    clear h1 h2 h3 h4 h5
    by_cases hlt : k < n
    · obtain ⟨b, off, rfl, hcell⟩ := (HC.out.below H4.out) (by omega)
      have c1 := hcell k hlt
      clear hcell
      obtain ⟨v, c2⟩ := H2.out k hlt
      have c3 := H3.out (k * 10 + 4)
      go_wp2_with fail
      go_roundw
      case rel =>
        refine ⟨k + 1, by omega, by go_num, fun i hi => ?_, fun i hi => ?_, fun o => (World.frozen?_setCell _ _ _ _).trans (H3.out o), H4.out.trans ⟨rfl, rfl, rfl, by simp [World.setCell], fun b hb => Below.heap_setCell _ _ _ _ (by show b ≠ w.heap.size; omega)⟩, by simpa [World.setCell] using H5.out⟩
        · by_cases e : i = k
          · subst e; exact World.cell?_setCell_same _ _ _ c2
          · exact (World.cell?_setCell_other _ _ _ _ (fun e' => by have := congrArg Addr.off e'; simp at this; omega)).trans (H1.out i (by omega))
        · by_cases e : i = k
          · subst e; exact ⟨_, World.cell?_setCell_same _ _ _ c2⟩
          · obtain ⟨u, hu⟩ := H2.out i hi
            exact ⟨u, (World.cell?_setCell_other _ _ _ _ (fun e' => by have := congrArg Addr.off e'; simp at this; omega)).trans hu⟩
      case measure => simp [intOf]; omega
    · obtain rfl : k = n := by omega
      go_wp2_with fail
      go_ret
      exact ⟨_, rfl, Nat.le_refl _, H5.out, H1.out, H3.out, H4.out⟩
end Go.Proofs.Ytomgcoggplaklaa.ch
