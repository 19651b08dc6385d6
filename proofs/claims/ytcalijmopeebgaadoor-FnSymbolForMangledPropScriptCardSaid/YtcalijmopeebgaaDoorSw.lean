/-
  Mangled properties: the law over a script, walked.
-/
import Derived.Test.YtcalijmopeebgaaDoorSt
namespace Go.Proofs.YtcalijmopeebgaaDoor.mp
open Go.ChangeShapes Go.WideShapes Go.ChangeAt Go.RowKit Go.Deep Go.Proofs.YtcalijmopeebgaaDoor.mk
set_option linter.unusedVariables false
set_option linter.unusedSimpArgs false

theorem seqT {a b : ByteArray} (h : a = b) : (a.toList == b.toList) = true := by subst h; simp
theorem seqF {a b : ByteArray} (h : a ≠ b) : (a.toList == b.toList) = false := by
  rw [ByteArray.toList_eq, ByteArray.toList_eq]
  refine beq_eq_false_iff_ne.2 fun e => h ?_
  cases a; cases b
  simp at e
  exact congrArg _ e
/-- An append whose run is known. -/
theorem wpList_append_run {P : Program} {w w' : World} {ops : Array Oper} {rest : List Oper} {o : Oper} {a : Act} {Q : Exit → Act → World → Prop} (hgd : o.guard = none) (s x : Operand) (t : TypeId)
    (ho : o.op = .call { callee := .builtin .append, args := #[s, x], argTypes := #[t, t] }) {v1 v2 v' : Value} (hs : a.eval s = v1) (hx : a.eval x = v2)
    (hr : (Builtin.append_ #[t, t] o.type #[v1, v2]).run P w = .ok v' w') (h : wpList P ops Q rest (a.put o.dst v') w') : wpList P ops Q (o :: rest) a w := by
  refine wpList_plain hgd fun _ hK => ?_
  unfold Oper.wp execOp
  simp only [ho, resolve, invoke, builtin, Sem.run_bind, Sem.run_pure, Result.andThen_ok, List.map_toArray, List.map_cons, List.map_nil, hs, hx, hr]
  exact hK _ _ h
theorem made0_22 (n : Nat) (hn : n ≤ 4096) (w : World) : (Instr.makeSlice 22 (.int .i64 0) (.int .i64 n)).run Tryd.prog w = .ok (.slice (some ⟨w.heap.size, 0, none⟩) 0 n) (w.alloc (.cells (madeCells #[.string ByteArray.empty] n) 9)) := by
  obtain ⟨i, hi, hz⟩ := Option.map_eq_some_iff.1 info9
  simp only [Prod.mk.injEq] at hz
  obtain ⟨h1, h2, h3⟩ := hz
  have hr := run_make (P := Tryd.prog) w 22 9 i _ Tryd.underlying22 hi h1 .i64 .i64 0 n (by omega) (by omega) (by rw [h3]; omega) (by omega)
  simp only [Int.toNat_natCast, h2, Nat.mul_one] at hr
  exact hr
theorem made0_34 (n : Nat) (hn : n ≤ 4096) (w : World) : (Instr.makeSlice 34 (.int .i64 0) (.int .i64 n)).run Tryd.prog w = .ok (.slice (some ⟨w.heap.size, 0, none⟩) 0 n) (w.alloc (.cells (madeCells #[.int .u32 0] n) 28)) := by
  obtain ⟨i, hi, hz⟩ := Option.map_eq_some_iff.1 info28
  simp only [Prod.mk.injEq] at hz
  obtain ⟨h1, h2, h3⟩ := hz
  have hr := run_make (P := Tryd.prog) w 34 28 i _ Tryd.underlying34 hi h1 .i64 .i64 0 n (by omega) (by omega) (by rw [h3]; omega) (by omega)
  simp only [Int.toNat_natCast, h2, Nat.mul_one] at hr
  exact hr
theorem Sl.start {w1 w2 : World} {g : Nat} {src : Int} {dead : Bool} {ia ib : Int} {V : Nat → ByteArray} (h : Sr w1 g src dead ia ib V (fun _ => False) 0 w2) (n : Nat) (hn : n ≤ 4096) :
    Sl w1 g src dead ia ib V 0 0 [] 0 [] w2.heap.size n (w2.heap.size + 1) n ((w2.alloc (.cells (madeCells #[.string ByteArray.empty] n) 9)).alloc (.cells (madeCells #[.int .u32 0] n) 28)) := by
  have hg := h.size
  have s1 : (w2.alloc (.cells (madeCells #[.string ByteArray.empty] n) 9)).heap.size = w2.heap.size + 1 := by simp
  have h1 := (h.more (.cells (madeCells #[.string ByteArray.empty] n) 9)).more (.cells (madeCells #[.int .u32 0] n) 28)
  rw [s1] at h1
  have hm : n ≤ maxLen := by unfold maxLen; omega
  refine ⟨h1.mono (fun b hb => ?_), ⟨rfl, .inr ⟨w2.heap.size, n, madeCells #[.string ByteArray.empty] n, rfl, by omega, ?_, by omega, hm, by simp [madeCells], by simp⟩⟩, ⟨rfl, .inr ⟨w2.heap.size + 1, n, madeCells #[.int .u32 0] n, rfl, by omega, ?_, by omega, hm, by simp [madeCells], by simp⟩⟩, by omega⟩
  · rcases hb with rfl | rfl
    · exact .inl (.inr rfl)
    · exact .inr rfl
  · exact (Below.heap_alloc _ _ _ (by rw [s1]; omega)).trans (heap_alloc_new w2 _)
  · have := heap_alloc_new (w2.alloc (.cells (madeCells #[.string ByteArray.empty] n) 9)) (.cells (madeCells #[.int .u32 0] n) 28)
    rw [s1] at this; exact this
set_option maxRecDepth 100000 in
set_option maxHeartbeats 4000000 in
theorem script4 (w : World) (a : Option Addr) (len cap : Nat) (V : Nat → ByteArray) (dead : Bool) (src : Int) (ia ib : Int) (hI : Inv w ia ib) (h : IsStrs w a len cap V) :
    Calls Tryd.prog 4 #[.slice a len cap, .bool dead, .int .u32 src] w (RrP w) := by
  have HI := Lib.hid hI
  have HA := Lib.hid h
  clear hI h
  go_enter Tryd.func4, Tryd.ntmps4
  go_wp2_with fail
  refine (bytes12 w a len cap V dead src HA.out.2.2.1).mono ?_
  rintro e w' ⟨⟨b, rfl⟩, rfl⟩
  cases b
  · go_simp
    go_wp2_with fail
    go_ret
    exact ⟨rfl, Below.refl _ _⟩
  by_cases hl0 : decide ((4096 : Int) < (len : Int)) = true
  · go_simp
    go_wp2_with fail
    go_ret
    exact ⟨rfl, Below.refl _ _⟩
  have hl1 : decide ((4096 : Int) < (len : Int)) = false := by simpa using hl0
  have HL : Hid (len ≤ 4096) := Lib.hid (by have := of_decide_eq_false hl1; omega)
  clear hl0
  go_simp
  go_wp2_with fail
  have hl := HL.out
  clear hl1
  refine (total6 w' a len cap V (by omega) HA.out.2.2.1).mono ?_
  rintro e w ⟨⟨c, rfl⟩, rfl⟩
  by_cases hc : decide ((1048576 : Int) < c) = true
  · go_simp
    go_wp2_with fail
    go_ret
    exact ⟨rfl, Below.refl _ _⟩
  have hc2 : decide ((1048576 : Int) < c) = false := by simpa using hc
  clear hc
  go_simp
  go_wp2_with fail
  refine (clone7 w a len cap V (by omega) HA.out.1 HA.out.2.2.1).mono ?_
  rintro e w1 ⟨a1, c1, rfl, hR1, hB1, hX1⟩
  have HR1 := Lib.hid hR1
  have HB1 := Lib.hid hB1
  have HI1 : Hid (Inv w1 ia ib) := Lib.hid ⟨(World.cell?_of_block (a := ⟨0, 0, none⟩) (hB1.block 0 HI.out.lt)).trans HI.out.1, (World.cell?_of_block (a := ⟨0, 1, none⟩) (hB1.block 0 HI.out.lt)).trans HI.out.2⟩
  clear hR1 hB1 hX1 hc2
  go_simp
  go_wp2_with fail
  refine (new8 w1 dead src ia ib HI1.out).mono ?_
  rintro e w2 hN
  obtain ⟨rfl, hN2⟩ := id hN
  have HS2 : Hid (Sr w1 w1.heap.size src dead ia ib V (fun _ => False) 0 w2) := Lib.hid (Sr.start hN)
  clear hN hN2
  have hmk := made0_22 len hl
  have hmk2 := made0_34 len hl
  go_simp
  go_wp2_with fail
  have HS3 := Lib.hid (Sl.start HS2.out len hl)
  clear hmk hmk2 HS2
  have HS4 : Hid (Sh w1 src dead ia ib V 0 0 w2.heap.size len (w2.heap.size + 1) len ((w2.alloc (.cells (madeCells #[.string ByteArray.empty] len) 9)).alloc (.cells (madeCells #[.int .u32 0] len) 28))) := Lib.hid ⟨rfl, HS3.out⟩
  clear HS3
  generalize (w2.alloc (.cells (madeCells #[.string ByteArray.empty] len) 9)).alloc (.cells (madeCells #[.int .u32 0] len) 28) = w3 at *
  generalize w2.heap.size = F at *
  go_loopw [8, 9, 10] (fun f c i wr => ∃ k n fb c1 cb c2 : Nat, k ≤ len ∧ f = .slice (some ⟨fb, 0, none⟩) n c1 ∧ c = .slice (some ⟨cb, 0, none⟩) n c2 ∧ i = .int .i64 k ∧ Sh w1 src dead ia ib V k n fb c1 cb c2 wr) (fun _ _ i _ => len - (intOf i).toNat)
  case atStart => exact ⟨0, 0, F, len, F + 1, len, by omega, rfl, rfl, rfl, HS4.out⟩
  case round =>
    clear HS4
    obtain ⟨k, n, fb, c1, cb, c2, hk, rfl, rfl, rfl, hS⟩ := hrel
    have HS := Lib.hid hS
    have hnk := hS.le
    clear hS
    by_cases hlt : k < len
    · obtain ⟨b, off, rfl, hcell⟩ := (HR1.out.below (HS.out.bel)) (by omega)
      have e2 := hcell k hlt
      clear hcell
      rename World => wo
      rcases hp : pos (runL dead V k) (V k) with _ | j0
      · have HP := Lib.hid hp
        clear hp
        go_wp2_with fail
        go_loop [12, 13] (fun q j => ∃ j' : Nat, j' ≤ n ∧ q = .int .i64 (-1) ∧ j = .int .i64 j') (fun _ j => n - (intOf j).toNat)
        case atStart => exact ⟨0, by omega, rfl, rfl⟩
        case round =>
          obtain ⟨j, hj, rfl, rfl⟩ := hrel
          by_cases hjn : j < n
          · obtain ⟨s, hs⟩ : ∃ s, s = (((runL dead V k)[j]?).getD (ByteArray.empty, 0)).1 := ⟨_, rfl⟩
            have d1 := HS.out.name hjn
            have hne : (s.toList == (V k).toList) = false := seqF (by rw [hs]; exact pos_nothere HP.out (by rw [← HS.out.1]; exact hjn))
            rw [← hs] at d1
            clear hs
            go_wp2_with fail
            go_round
            case rel => exact ⟨j + 1, by omega, rfl, by go_num⟩
            case measure => simp [intOf]; omega
          · obtain rfl : j = n := by omega
            obtain ⟨fb', c1', w4, hr4, cb', c2', w5, hr5, hQ⟩ := HS.out.app (by omega) HP.out
            have HQ := Lib.hid hQ
            have HR4 := Lib.hid hr4
            have HR5 := Lib.hid hr5
            clear hr4 hr5
            obtain ⟨d1, f1⟩ := hQ.count
            have hix : idx (runL dead V k) (V k) = j := by rw [HS.out.1]; simp [idx, HP.out]
            rw [hix] at d1 f1
            have HIX := Lib.hid hix
            clear hQ hix
            obtain ⟨cc, hcc⟩ : ∃ cc, cc = cntV V (V k) k := ⟨_, rfl⟩
            have hcl := cntV_le V (V k) k
            rw [← hcc] at d1 hcl
            have HCC := Lib.hid hcc
            clear hcc
            go_wp2_with (first | (at_builtin; refine wpList_append_run rfl (.tmp 67) (.tmp 69) 22 rfl rfl rfl HR4.out ?_) | (at_builtin; refine wpList_append_run rfl (.tmp 71) (.tmp 72) 34 rfl rfl rfl HR5.out ?_))
            have hcall := HQ.out.step (by omega)
            rw [HIX.out, ← HCC.out] at hcall
            refine hcall.mono ?_
            rintro e w6 ⟨rfl, hS6⟩
            have HS6 := Lib.hid hS6
            clear hS6 hcall HR4 HR5 d1 f1
            go_simp
            go_wp2_with fail
            go_roundw
            case rel => exact ⟨k + 1, j + 1, fb', c1', cb', c2', by omega, rfl, rfl, by go_num, HS6.out.below ((Below.refl _ _).alloc (Nat.le_refl _) _)⟩
            case measure => simp [intOf]; omega
      · have HP := Lib.hid hp
        have hj0 : j0 < n := by rw [HS.out.1]; exact pos_lt hp
        clear hp
        go_wp2_with fail
        go_loop [12, 13] (fun q j => ∃ j' : Nat, j' ≤ j0 ∧ q = .int .i64 (-1) ∧ j = .int .i64 j') (fun _ j => n - (intOf j).toNat)
        case atStart => exact ⟨0, by omega, rfl, rfl⟩
        case round =>
          obtain ⟨j, hj, rfl, rfl⟩ := hrel
          have hjn : j < n := by omega
          by_cases hjj : j < j0
          · obtain ⟨s, hs⟩ : ∃ s, s = (((runL dead V k)[j]?).getD (ByteArray.empty, 0)).1 := ⟨_, rfl⟩
            have d1 := HS.out.name hjn
            have hne : (s.toList == (V k).toList) = false := seqF (by rw [hs]; exact pos_before HP.out hjj)
            rw [← hs] at d1
            clear hs
            go_wp2_with fail
            go_round
            case rel => exact ⟨j + 1, by omega, rfl, by go_num⟩
            case measure => simp [intOf]; omega
          · obtain rfl : j = j0 := by omega
            obtain ⟨u, hu⟩ := pos_some HP.out
            have d0 := (HS.out.at hu).1
            have heq : ((V k).toList == (V k).toList) = true := seqT rfl
            clear hu
            have HQ := Lib.hid (HS.out.found HP.out)
            obtain ⟨d1, f1⟩ := HQ.out.count
            have hix : idx (runL dead V k) (V k) = j := by simp [idx, HP.out]
            rw [hix] at d1 f1
            have HIX := Lib.hid hix
            clear hix
            obtain ⟨cc, hcc⟩ : ∃ cc, cc = cntV V (V k) k := ⟨_, rfl⟩
            have hcl := cntV_le V (V k) k
            rw [← hcc] at d1 hcl
            have HCC := Lib.hid hcc
            clear hcc
            go_wp2_with fail
            have hcall := HQ.out.step (by omega)
            rw [HIX.out, ← HCC.out] at hcall
            refine hcall.mono ?_
            rintro e w6 ⟨rfl, hS6⟩
            have HS6 := Lib.hid hS6
            clear hS6 hcall d0 d1 f1 heq
            go_simp
            go_wp2_with fail
            go_roundw
            case rel => exact ⟨k + 1, n, fb, c1, cb, c2, by omega, rfl, rfl, by go_num, HS6.out.below ((Below.refl _ _).alloc (Nat.le_refl _) _)⟩
            case measure => simp [intOf]; omega
    · obtain rfl : k = len := by omega
      go_wp2_with fail
      refine (Sh.cnt HS.out).mono ?_
      rintro e w4 ⟨rfl, rfl⟩
      go_simp
      go_wp2_with fail
      go_loopw [15] (fun j wr => ∃ j' : Nat, j' ≤ n ∧ j = .int .i64 j' ∧ Sh w1 src dead ia ib V k n fb c1 cb c2 wr) (fun j _ => n - (intOf j).toNat)
      case atStart => exact ⟨0, by omega, rfl, HS.out⟩
      case round =>
        clear HS
        obtain ⟨j, hj, rfl, hS⟩ := hrel
        have HS := Lib.hid hS
        clear hS
        by_cases hjn : j < n
        · obtain ⟨⟨s, u⟩, hx⟩ := HS.out.get hjn
          have hu := (good dead V k).use _ _ _ hx
          have heq : (s.toList == s.toList) = true := seqT rfl
          have hne : (s.toList != s.toList) = false := by simp
          have HX := Lib.hid hx
          clear hx
          go_wp2_with fail
          refine (Sh.read HS.out HX.out).mono ?_
          rintro e w6 ⟨rfl, hS6⟩
          obtain ⟨q1, q2⟩ := hS6.at HX.out
          have d1 : w6.cell? ⟨fb, j, none⟩ = some (.string s) := q1
          obtain ⟨cc, hcc⟩ : ∃ cc, cc = cntV V s k := ⟨_, rfl⟩
          have d2 : w6.cell? ⟨cb, j, none⟩ = some (.int .u32 (cntV V s k : Nat)) := q2
          rw [← hcc] at d2 hu
          clear hcc q1 q2
          have HS6 := Lib.hid hS6
          clear hS6
          cases dead
          · obtain rfl : u = cc := by simpa using hu
            clear hu
            go_simp
            go_wp2_with fail
            go_roundw
            case rel => exact ⟨j + 1, by omega, by go_num, HS6.out⟩
            case measure => simp [intOf]; omega
          · obtain rfl : u = 0 := by simpa using hu
            clear hu
            go_simp
            go_wp2_with fail
            go_roundw
            case rel => exact ⟨j + 1, by omega, by go_num, HS6.out⟩
            case measure => simp [intOf]; omega
        · obtain rfl : j = n := by omega
          go_wp2_with fail
          refine (Sh.allocs HS.out).mono ?_
          rintro e w6 ⟨rfl, rfl⟩
          go_simp
          go_wp2_with fail
          go_ret
          exact ⟨rfl, HB1.out.trans (HS.out.bel.mono HB1.out.size)⟩
end Go.Proofs.YtcalijmopeebgaaDoor.mp
