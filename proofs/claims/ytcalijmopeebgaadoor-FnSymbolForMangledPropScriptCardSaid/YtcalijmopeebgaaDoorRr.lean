/-
  Mangled properties: the law that runs the names twice, walked.
-/
import Derived.Test.YtcalijmopeebgaaDoorSr
import Derived.Deep.RegionWith
import Derived.StillTailTactics
namespace Go.Proofs.YtcalijmopeebgaaDoor.mp
open Go.ChangeShapes Go.WideShapes Go.ChangeAt Go.RowKit Go.Deep Go.Proofs.YtcalijmopeebgaaDoor.mk
set_option linter.unusedVariables false
set_option linter.unusedSimpArgs false

/-- The row of references that the first run has given. -/
def FR (F len p : Nat) (R : Nat → Nat) (wr : World) : Prop := ∃ f, wr.rowIs F 31 (len * 2) f ∧ ∀ j, j < p → f (j * 2) = .int .u32 3 ∧ f (j * 2 + 1) = .int .u32 (R j)
theorem FR.of_block {F len p : Nat} {R : Nat → Nat} {w w' : World} (h : FR F len p R w) (e : w'.heap[F]? = w.heap[F]?) : FR F len p R w' := by
  obtain ⟨f, h1, h2⟩ := h; exact ⟨f, h1.of_block e, h2⟩
theorem FR.lt {F len p : Nat} {R : Nat → Nat} {w : World} (h : FR F len p R w) : F < w.heap.size := by
  obtain ⟨f, h1, h2⟩ := h; exact h1.lt
theorem FR.set {F len p : Nat} {R : Nat → Nat} {w : World} (h : FR F len p R w) : FR F len (p + 1) R ((w.setCell ⟨F, p * 2, none⟩ (.int .u32 3)).setCell ⟨F, p * 2 + 1, none⟩ (.int .u32 (R p))) := by
  obtain ⟨f, h1, h2⟩ := h
  refine ⟨_, (h1.set (p * 2) (.int .u32 3)).set (p * 2 + 1) (.int .u32 (R p)), fun j hj => ?_⟩
  by_cases e : j = p
  · subst e; simp
  · obtain ⟨a, b⟩ := h2 j (by omega)
    rw [if_neg (by omega), if_neg (by omega), if_neg (by omega), if_neg (by omega)]
    exact ⟨a, b⟩
theorem FR.at {F len p : Nat} {R : Nat → Nat} {w : World} (h : FR F len p R w) {j : Nat} (hj : j < len) : (∃ v, w.cell? ⟨F, j * 2, none⟩ = some v) ∧ (∃ v, w.cell? ⟨F, j * 2 + 1, none⟩ = some v) ∧ w.frozen? ⟨F, j * 2, none⟩ = false ∧ w.frozen? ⟨F, j * 2 + 1, none⟩ = false := by
  obtain ⟨f, h1, h2⟩ := h
  exact ⟨⟨_, h1.cell (by omega)⟩, ⟨_, h1.cell (by omega)⟩, h1.frozen _, h1.frozen _⟩
theorem FR.get {F len p : Nat} {R : Nat → Nat} {w : World} (h : FR F len p R w) {j : Nat} (hj : j < p) (hl : p ≤ len) : w.cell? ⟨F, j * 2, none⟩ = some (.int .u32 3) ∧ w.cell? ⟨F, j * 2 + 1, none⟩ = some (.int .u32 (R j)) := by
  obtain ⟨f, h1, h2⟩ := h
  obtain ⟨a, b⟩ := h2 j hj
  exact ⟨by rw [h1.cell (by omega), a], by rw [h1.cell (by omega), b]⟩
theorem info31 : (Tryd.prog.info? 31).map (fun i => (i.zero.map (·.cells), i.size, i.bytes)) = some (some #[.int .u32 0, .int .u32 0], 2, 8) := by kernel_rfl
theorem info28 : (Tryd.prog.info? 28).map (fun i => (i.zero, i.size, i.bytes)) = some (some (Value.int .u32 0), 1, 4) := by kernel_rfl
theorem made29 (n : Nat) (hn : n ≤ 65536) (w : World) : (Instr.makeSlice 29 (.int .i64 n) (.int .i64 n)).run Tryd.prog w = .ok (.slice (some ⟨w.heap.size, 0, none⟩) n n) (w.alloc (.cells (madeCells #[.int .u32 0, .int .u32 0] (n * 2)) 31)) := by
  obtain ⟨i, hi, hz⟩ := Option.map_eq_some_iff.1 info31
  simp only [Prod.mk.injEq] at hz
  obtain ⟨h1, h2, h3⟩ := hz
  obtain ⟨z, hz, hzc⟩ := Option.map_eq_some_iff.1 h1
  have hr := run_make (P := Tryd.prog) w 29 31 i z Tryd.underlying29 hi hz .i64 .i64 n n (by omega) (Int.le_refl _) (by rw [h3]; omega) (by omega)
  simp only [Int.toNat_natCast, hzc, h2] at hr
  exact hr
theorem made34 (n : Nat) (hn : n ≤ 65536) (w : World) : (Instr.makeSlice 34 (.int .i64 n) (.int .i64 n)).run Tryd.prog w = .ok (.slice (some ⟨w.heap.size, 0, none⟩) n n) (w.alloc (.cells (madeCells #[.int .u32 0] n) 28)) :=
  run_make_row' (P := Tryd.prog) 34 28 (Value.int .u32 0) 4 Tryd.underlying34 info28 rfl .i64 .i64 n (by omega) (by omega) w
theorem FR.made (w : World) (n : Nat) (R : Nat → Nat) : FR w.heap.size n 0 R (w.alloc (.cells (madeCells #[.int .u32 0, .int .u32 0] (n * 2)) 31)) := by
  refine ⟨fun i => (madeCells #[.int .u32 0, .int .u32 0] (n * 2)).getD i (.int .u32 0), ?_, fun j hj => by omega⟩
  have hsz : (madeCells #[Value.int .u32 0, .int .u32 0] (n * 2)).size = n * 2 := by simp [madeCells]
  have := World.rowIs_alloc w (madeCells #[.int .u32 0, .int .u32 0] (n * 2)) 31 (fun i => (madeCells #[.int .u32 0, .int .u32 0] (n * 2)).getD i (.int .u32 0)) (fun i hi => by simp [Array.getD, hi])
  rw [hsz] at this; exact this
/-- The row of uses after the first run. -/
def UR (U n p : Nat) (Z : Nat → Nat) (wr : World) : Prop := ∃ f, wr.rowIs U 28 n f ∧ ∀ j, j < p → f j = .int .u32 (Z j)
theorem UR.of_block {F len p : Nat} {R : Nat → Nat} {w w' : World} (h : UR F len p R w) (e : w'.heap[F]? = w.heap[F]?) : UR F len p R w' := by
  obtain ⟨f, h1, h2⟩ := h; exact ⟨f, h1.of_block e, h2⟩
theorem UR.lt {F len p : Nat} {R : Nat → Nat} {w : World} (h : UR F len p R w) : F < w.heap.size := by
  obtain ⟨f, h1, h2⟩ := h; exact h1.lt
theorem UR.set {F len p : Nat} {R : Nat → Nat} {w : World} (h : UR F len p R w) : UR F len (p + 1) R (w.setCell ⟨F, p, none⟩ (.int .u32 (R p))) := by
  obtain ⟨f, h1, h2⟩ := h
  refine ⟨_, h1.set p (.int .u32 (R p)), fun j hj => ?_⟩
  by_cases e : j = p
  · subst e; simp
  · rw [if_neg e]; exact h2 j (by omega)
theorem UR.at {F len p : Nat} {R : Nat → Nat} {w : World} (h : UR F len p R w) {j : Nat} (hj : j < len) : (∃ v, w.cell? ⟨F, j, none⟩ = some v) ∧ w.frozen? ⟨F, j, none⟩ = false := by
  obtain ⟨f, h1, h2⟩ := h
  exact ⟨⟨_, h1.cell hj⟩, h1.frozen _⟩
theorem UR.get {F len p : Nat} {R : Nat → Nat} {w : World} (h : UR F len p R w) {j : Nat} (hj : j < p) (hl : p ≤ len) : w.cell? ⟨F, j, none⟩ = some (.int .u32 (R j)) := by
  obtain ⟨f, h1, h2⟩ := h
  rw [h1.cell (by omega), h2 j hj]
theorem UR.made (w : World) (n : Nat) (R : Nat → Nat) : UR w.heap.size n 0 R (w.alloc (.cells (madeCells #[.int .u32 0] n) 28)) :=
  ⟨_, World.rowIs_made w _ n 28, fun j hj => by omega⟩

theorem get_some (L : List (ByteArray × Nat)) {j : Nat} (h : j < L.length) : ∃ s, L[j]? = some (s, (L[j]?.getD (ByteArray.empty, 0)).2) := ⟨L[j].1, by simp [List.getElem?_eq_getElem h]⟩
theorem part0 (w : World) (a b : Int) : (part 28 #[.int .u32 a, .int .u32 b] 0).run Tryd.prog w = .ok (.int .u32 a) w := by kernel_rfl
theorem part1 (w : World) (a b : Int) : (part 28 #[.int .u32 a, .int .u32 b] 1).run Tryd.prog w = .ok (.int .u32 b) w := by kernel_rfl
theorem eqi (w : World) (n : Nat) (a c : Int) : (Op.equalIn (n + 1) 28 (.int .u32 a) (.int .u32 c)).run Tryd.prog w = .ok (a == c) w := by
  simp [Op.equalIn, run_underlying Tryd.underlying28]
theorem eqr (w : World) (n : Nat) (a b c d : Int) : (Op.equalIn (n + 1 + 1) 31 (.agg #[.int .u32 a, .int .u32 b]) (.agg #[.int .u32 c, .int .u32 d])).run Tryd.prog w = .ok (a == c && b == d) w := by
  rw [Op.equalIn]
  cases h1 : a == c <;> cases h2 : b == d <;> simp [run_underlying Tryd.underlying31, part0, part1, eqi, h1, h2]
theorem neq31 (w : World) (a b : Int) : (binOp .neq 31 (.agg #[.int .u32 a, .int .u32 b]) (.agg #[.int .u32 a, .int .u32 b])).run Tryd.prog w = .ok (.bool false) w := by
  have := eqr w 9998 a b a b
  simp only [beq_self_eq_true, Bool.and_self] at this
  simp only [binOp, Op.equal]
  have e : Op.maxDepth = 9998 + 1 + 1 := rfl
  simp [e, this]
theorem Sr.drew {w1 wr : World} {g : Nat} {src : Int} {dead : Bool} {ia ib : Int} {VV : Nat → ByteArray} {X : Nat → Prop} {k : Nat} (h : Sr w1 g src dead ia ib VV X k wr) : Sr w1 g src dead ia ib VV X k wr.drew := h.below ⟨rfl, rfl, rfl, Nat.le_refl _, fun _ _ => rfl⟩
def RrP (w : World) (e : Ending) (w' : World) : Prop := e = .returned (.bool true) ∧ Below w.heap.size w w'
set_option maxRecDepth 100000 in
set_option maxHeartbeats 4000000 in
theorem rerun3 (w : World) (a : Option Addr) (len cap : Nat) (V : Nat → ByteArray) (dead : Bool) (ia ib : Int) (hI : Inv w ia ib) (h : IsStrs w a len cap V) :
    Calls Tryd.prog 3 #[.slice a len cap, .bool dead] w (RrP w) := by
  have HI := Lib.hid hI
  have HA := Lib.hid h
  clear hI h
  go_enter Tryd.func3, Tryd.ntmps3
  go_wp2_with fail
  refine (bytes5 w a len cap V dead 0 HA.out.2.2.1).mono ?_
  rintro e w' ⟨⟨b, rfl⟩, rfl⟩
  cases b
  · go_simp
    go_wp2_with fail
    go_ret
    exact ⟨rfl, Below.refl _ _⟩
  by_cases hl0 : decide ((65536 : Int) < (len : Int)) = true
  · go_simp
    go_wp2_with fail
    go_ret
    exact ⟨rfl, Below.refl _ _⟩
  have hl1 : decide ((65536 : Int) < (len : Int)) = false := by simpa using hl0
  have HL : Hid (len ≤ 65536) := Lib.hid (by have := of_decide_eq_false hl1; omega)
  clear hl0
  go_simp
  go_wp2_with fail
  have hl := HL.out
  clear hl1
  refine (total6 w' a len cap V hl HA.out.2.2.1).mono ?_
  rintro e w ⟨⟨c, rfl⟩, rfl⟩
  by_cases hc : decide ((1048576 : Int) < c) = true
  · go_simp
    go_wp2_with fail
    go_ret
    exact ⟨rfl, Below.refl _ _⟩
  have hc2 : decide ((1048576 : Int) < c) = false := by simpa using hc
  clear hc
  go_simp
  go_wp2_with fail
  refine (clone7 w a len cap V hl HA.out.1 HA.out.2.2.1).mono ?_
  rintro e w1 ⟨a1, c1, rfl, hR1, hB1, hX1⟩
  have HR1 := Lib.hid hR1
  have HB1 := Lib.hid hB1
  have HI1 : Hid (Inv w1 ia ib) := Lib.hid ⟨(World.cell?_of_block (a := ⟨0, 0, none⟩) (hB1.block 0 HI.out.lt)).trans HI.out.1, (World.cell?_of_block (a := ⟨0, 1, none⟩) (hB1.block 0 HI.out.lt)).trans HI.out.2⟩
  clear hR1 hB1 hX1 hc2
  go_simp
  go_wp2_with fail
  refine (new8 w1 dead 3 ia ib HI1.out).mono ?_
  rintro e w2 hN
  obtain ⟨rfl, hN2⟩ := id hN
  have HS2 : Hid (Sr w1 w1.heap.size 3 dead ia ib (twice V len) (fun _ => False) 0 w2) := Lib.hid (Sr.start hN)
  clear hN hN2
  have hmk := made29 len hl
  go_simp
  go_wp2_with fail
  have hFg : w1.heap.size < w2.heap.size := HS2.out.size
  have HS3 : Hid (Sr w1 w1.heap.size 3 dead ia ib (twice V len) (fun b => False ∨ b = w2.heap.size) 0 (w2.alloc (.cells (madeCells #[.int .u32 0, .int .u32 0] (len * 2)) 31))) := Lib.hid (HS2.out.more _)
  have HF3 : Hid (FR w2.heap.size len 0 (fun j => idx (runL dead (twice V len) j) (twice V len j)) (w2.alloc (.cells (madeCells #[.int .u32 0, .int .u32 0] (len * 2)) 31))) := Lib.hid (FR.made w2 len _)
  clear hmk HS2
  generalize w2.alloc (.cells (madeCells #[.int .u32 0, .int .u32 0] (len * 2)) 31) = w3 at *
  generalize w2.heap.size = F at *
  go_loopw [7] (fun i wr => ∃ k : Nat, k ≤ len ∧ i = .int .i64 k ∧ Sr w1 w1.heap.size 3 dead ia ib (twice V len) (fun b => False ∨ b = F) k wr ∧ FR F len k (fun j => idx (runL dead (twice V len) j) (twice V len j)) wr) (fun i _ => len - (intOf i).toNat)
  case atStart => exact ⟨0, by omega, rfl, HS3.out, HF3.out⟩
  case round =>
    clear HS3 HF3
    obtain ⟨k, hk, rfl, hS, hF⟩ := hrel
    have HS := Lib.hid hS
    have HF := Lib.hid hF
    clear hS hF
    by_cases hlt : k < len
    · obtain ⟨b, off, rfl, hcell⟩ := (HR1.out.below (HS.out.bel)) (by omega)
      have c2 := hcell k hlt
      clear hcell
      go_wp2_with fail
      refine (Sr.step HS.out (by omega) (twice_lo hlt)).mono ?_
      rintro e w4 ⟨rfl, hS4, hsz, hkeep⟩
      have hF4 := HF.out.of_block (hkeep F (.inr (.inr rfl)))
      obtain ⟨⟨v1, d1⟩, ⟨v2, d2⟩, f1, f2⟩ := hF4.at hlt
      have HS4 := Lib.hid hS4
      have HF4 := Lib.hid hF4
      clear hS4 hF4 hsz hkeep
      go_simp
      go_wp2_with fail
      go_roundw
      case rel => exact ⟨k + 1, by omega, by go_num, (HS4.out.set (.inr rfl) (by omega) _ _).set (.inr rfl) (by omega) _ _, HF4.out.set⟩
      case measure => simp [intOf]; omega
    · obtain rfl : k = len := by omega
      go_wp2_with fail
      refine (Sr.count HS.out).mono ?_
      rintro e w4 ⟨rfl, rfl⟩
      have hn := len_run dead (twice V k) k
      obtain ⟨n, hnn⟩ : ∃ n, n = (runL dead (twice V k) k).length := ⟨_, rfl⟩
      have HNN := Lib.hid hnn
      rw [← hnn] at hn
      rw [← hnn]
      clear hnn
      have hmk := made34 n (by omega)
      have HN0 := Lib.hid hn
      have hn1 : decide ((k : Int) < (n : Int)) = false := decide_eq_false (by omega)
      have hn2 : decide (k < n) = false := decide_eq_false (by omega)
      clear hn hk hlt
      go_simp
      go_wp2_with fail
      have hn := HN0.out
      clear hn1 hn2
      have HS5 : Hid (Sr w1 w1.heap.size 3 dead ia ib (twice V k) (fun b => (False ∨ b = F) ∨ b = w4.heap.size) k (w4.alloc (.cells (madeCells #[.int .u32 0] n) 28))) := Lib.hid (HS.out.more _)
      have HF5 : Hid (FR F k k (fun j => idx (runL dead (twice V k) j) (twice V k j)) (w4.alloc (.cells (madeCells #[.int .u32 0] n) 28))) := Lib.hid (HF.out.of_block (Below.heap_alloc _ _ _ HF.out.lt))
      have HU5 : Hid (UR w4.heap.size n 0 (fun j => ((runL dead (twice V k) k)[j]?.getD (ByteArray.empty, 0)).2) (w4.alloc (.cells (madeCells #[.int .u32 0] n) 28))) := Lib.hid (UR.made w4 n _)
      have hUg : w1.heap.size < w4.heap.size := HS.out.size
      have hUF : F < w4.heap.size := HF.out.lt
      clear hmk HS HF
      generalize w4.alloc (.cells (madeCells #[.int .u32 0] n) 28) = w5 at *
      generalize w4.heap.size = U at *
      go_loopw [10] (fun i wr => ∃ j : Nat, j ≤ n ∧ i = .int .i64 j ∧ Sr w1 w1.heap.size 3 dead ia ib (twice V k) (fun b => (False ∨ b = F) ∨ b = U) k wr ∧ FR F k k (fun j => idx (runL dead (twice V k) j) (twice V k j)) wr ∧ UR U n j (fun j => ((runL dead (twice V k) k)[j]?.getD (ByteArray.empty, 0)).2) wr) (fun i _ => n - (intOf i).toNat)
      case atStart => exact ⟨0, by omega, rfl, HS5.out, HF5.out, HU5.out⟩
      case round =>
        clear HS5 HF5 HU5
        obtain ⟨j, hj, rfl, hS, hF, hU⟩ := hrel
        have HS := Lib.hid hS
        have HF := Lib.hid hF
        have HU := Lib.hid hU
        clear hS hF hU
        by_cases hjn : j < n
        · obtain ⟨s, hs⟩ := get_some (runL dead (twice V k) k) (j := j) (by rw [← HNN.out]; exact hjn)
          obtain ⟨u, hu⟩ : ∃ u, u = ((runL dead (twice V k) k)[j]?.getD (ByteArray.empty, 0)).2 := ⟨_, rfl⟩
          have HUU := Lib.hid hu
          rw [← hu] at hs
          clear hu
          go_wp2_with fail
          refine (Sr.read HS.out hs).mono ?_
          rintro e w6 ⟨rfl, hS6, hb6⟩
          have hF6 := HF.out.of_block (hb6.block F HF.out.lt)
          have hU6 := HU.out.of_block (hb6.block U HU.out.lt)
          obtain ⟨⟨v1, d1⟩, f1⟩ := hU6.at hjn
          have HS6 := Lib.hid hS6
          have HF6 := Lib.hid hF6
          have HU6 := Lib.hid hU6
          clear hS6 hF6 hU6 hb6 hs
          go_simp
          go_wp2_with fail
          go_roundw
          case rel =>
            exact ⟨j + 1, by omega, by go_num, HS6.out.set (.inr rfl) (by omega) _ _, HF6.out.of_block (Below.heap_setCell _ _ _ _ (by show F ≠ U; omega)), by have h9 := HU6.out.set; rw [← HUU.out] at h9; exact h9⟩
          case measure => simp [intOf]; omega
        · obtain rfl : j = n := by omega
          go_wp2_with fail
          go_loopw [14] (fun i wr => ∃ i' : Nat, i' ≤ k ∧ i = .int .i64 i' ∧ Sr w1 w1.heap.size 3 dead ia ib (twice V k) (fun b => (False ∨ b = F) ∨ b = U) (k + i') wr ∧ FR F k k (fun j => idx (runL dead (twice V k) j) (twice V k j)) wr ∧ UR U j j (fun j => ((runL dead (twice V k) k)[j]?.getD (ByteArray.empty, 0)).2) wr) (fun i _ => k - (intOf i).toNat)
          case atStart => exact ⟨0, by omega, rfl, HS.out, HF.out, HU.out⟩
          case round =>
            clear HS HF HU
            obtain ⟨i, hi, rfl, hS, hF, hU⟩ := hrel
            have HS := Lib.hid hS
            have HF := Lib.hid hF
            have HU := Lib.hid hU
            clear hS hF hU
            by_cases hik : i < k
            · obtain ⟨b, off, rfl, hcell⟩ := (HR1.out.below (HS.out.bel)) (by omega)
              have c2 := hcell i hik
              clear hcell
              obtain ⟨d1, d2⟩ := HF.out.get hik (Nat.le_refl _)
              have hq := neq31
              obtain ⟨r, hr⟩ : ∃ r, r = idx (runL dead (twice V k) i) (twice V k i) := ⟨_, rfl⟩
              have HRR := Lib.hid hr
              rw [← hr] at d2
              clear hr
              go_wp2_with fail
              go_region_with (go_at_call 9; go_loud (refine (Sr.step (HS.out.drew) (by omega) twice_hi).mono ?_; rintro e w4 ⟨rfl, hS4, hsz, hkeep⟩; rw [again_idx hik, ← HRR.out]; have HS4 := Lib.hid hS4; have HF4 := Lib.hid (HF.out.of_block (hkeep F (.inr (.inl (.inr rfl))))); have HU4 := Lib.hid (HU.out.of_block (hkeep U (.inr (.inr rfl)))); obtain ⟨d3, d4⟩ := HF4.out.get hik (Nat.le_refl _); rw [← HRR.out] at d4; clear hS4 hsz hkeep))
              all_goals
                go_simp
                go_wp2_with fail
                go_roundw
                case rel => exact ⟨i + 1, by omega, by go_num, HS4.out, HF4.out, HU4.out⟩
                case measure => simp [intOf]; omega
            · obtain rfl : i = k := by omega
              go_wp2_with fail
              refine (Sr.count HS.out).mono ?_
              rintro e w4 ⟨rfl, rfl⟩
              rw [again_len i (Nat.le_refl _), ← HNN.out]
              go_simp
              go_wp2_with fail
              go_loopw [15] (fun q wr => ∃ q' : Nat, q' ≤ j ∧ q = .int .i64 q' ∧ Sr w1 w1.heap.size 3 dead ia ib (twice V i) (fun b => (False ∨ b = F) ∨ b = U) (i + i) wr ∧ UR U j j (fun j => ((runL dead (twice V i) i)[j]?.getD (ByteArray.empty, 0)).2) wr) (fun q _ => j - (intOf q).toNat)
              case atStart => exact ⟨0, by omega, rfl, HS.out, HU.out⟩
              case round =>
                clear HS HF HU
                obtain ⟨q, hq0, rfl, hS, hU⟩ := hrel
                have HS := Lib.hid hS
                have HU := Lib.hid hU
                clear hS hU
                by_cases hqj : q < j
                · obtain ⟨s, hs⟩ := get_some (runL dead (twice V i) i) (j := q) (by rw [← HNN.out]; exact hqj)
                  have d1 := HU.out.get hqj (Nat.le_refl _)
                  obtain ⟨u, hu⟩ : ∃ u, u = ((runL dead (twice V i) i)[q]?.getD (ByteArray.empty, 0)).2 := ⟨_, rfl⟩
                  rw [← hu] at hs d1
                  clear hu
                  obtain ⟨v, hv, hvu⟩ := again_use hs
                  have hul : u ≤ 65536 := Nat.le_trans (use_le (List.mem_of_getElem? hs)) hl
                  have wr2 : IntKind.u32.wrap ((u : Int) * 2) = (u : Int) * 2 := IntWalk.u32_in _ (by omega)
                  have HSS := Lib.hid hs
                  have HHV := Lib.hid hv
                  clear hs hv hul
                  cases dead
                  · have hvu2 : v = u * 2 := by simpa using hvu
                    subst hvu2
                    clear hvu
                    go_wp2_with fail
                    refine (Sr.read HS.out HHV.out).mono ?_
                    rintro e w6 ⟨rfl, hS6, hb6⟩
                    have hU6 := HU.out.of_block (hb6.block U HU.out.lt)
                    have d2 := (hb6.cell (p := ⟨U, q, none⟩) HU.out.lt).trans d1
                    have HS6 := Lib.hid hS6
                    have HU6 := Lib.hid hU6
                    clear hS6 hU6 hb6 d1
                    go_simp
                    go_wp2_with fail
                    go_roundw
                    case rel => exact ⟨q + 1, by omega, by go_num, HS6.out, HU6.out⟩
                    case measure => simp [intOf]; omega
                  · have hvu2 : v = 0 := by simpa using hvu
                    subst hvu2
                    clear hvu
                    go_wp2_with fail
                    refine (Sr.read HS.out HHV.out).mono ?_
                    rintro e w6 ⟨rfl, hS6, hb6⟩
                    have hU6 := HU.out.of_block (hb6.block U HU.out.lt)
                    have d2 := (hb6.cell (p := ⟨U, q, none⟩) HU.out.lt).trans d1
                    have HS6 := Lib.hid hS6
                    have HU6 := Lib.hid hU6
                    clear hS6 hU6 hb6 d1
                    go_simp
                    go_wp2_with fail
                    go_roundw
                    case rel => exact ⟨q + 1, by omega, by go_num, HS6.out, HU6.out⟩
                    case measure => simp [intOf]; omega
                · obtain rfl : q = j := by omega
                  go_wp2_with fail
                  go_ret
                  exact ⟨rfl, HB1.out.trans (HS.out.bel.mono HB1.out.size)⟩
end Go.Proofs.YtcalijmopeebgaaDoor.mp
