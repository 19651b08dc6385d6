/-
  A parser that counts uses: ignoreUsage.
-/
import Derived.Test.YtomgcoggplaklaaPs
namespace Go.Proofs.Ytomgcoggplaklaa.ch
open Go.ChangeShapes Go.WideShapes Go.ChangeAt Go.RowKit Go.Deep Go.Proofs.Ytomgcoggplaklaa.mk
set_option linter.unusedVariables false
set_option linter.unusedSimpArgs false

def IgP (w : World) (g SB n : Nat) (dead : Bool) (pt : Option (Nat × Nat)) (U : Nat → Int) (m : Nat) (M : Value → Option Value) (e : Ending) (w' : World) : Prop :=
  e = .returned (.tuple #[]) ∧ Ps w' g SB n dead pt U m M ∧ Touch (fun b => b = SB ∨ ∃ p, pt = some p ∧ b = p.2) w w'
theorem Ps.alloc {w : World} {g SB n : Nat} {dead : Bool} {pt : Option (Nat × Nat)} {U : Nat → Int} {m : Nat} {M : Value → Option Value} (h : Ps w g SB n dead pt U m M) (o : Obj) : Ps (w.alloc o) g SB n dead pt U m M := h.below ((Below.refl _ _).alloc (Nat.le_refl _) _)
theorem Ps.drew {w : World} {g SB n : Nat} {dead : Bool} {pt : Option (Nat × Nat)} {U : Nat → Int} {m : Nat} {M : Value → Option Value} (h : Ps w g SB n dead pt U m M) : Ps w.drew g SB n dead pt U m M := h.below ⟨rfl, rfl, rfl, Nat.le_refl _, fun _ _ => rfl⟩
def dec (x : Int) : Int := (x - 1) % 4294967296
set_option maxRecDepth 100000 in
set_option maxHeartbeats 2000000 in
theorem ig_dead (w : World) (g SB n k : Nat) (pt : Option (Nat × Nat)) (U : Nat → Int) (m : Nat) (M : Value → Option Value) (h : Ps w g SB n true pt U m M) :
    Calls Try.prog 16 #[.pointer (some ⟨g, 0, none⟩), .agg #[.int .u32 0, .int .u32 k]] w (IgP w g SB n true pt U m M) := by
  have H := Lib.hid h
  have c1 := h.c350
  have hg := h.ltg
  clear h
  go_enter Try.func16, Try.ntmps16
  go_wp2
  go_end0
  exact ⟨rfl, H.out.below ((Below.refl _ _).alloc (Nat.le_refl _) _), (Touch.refl _ w).alloc _⟩
set_option maxRecDepth 100000 in
set_option maxHeartbeats 2000000 in
theorem ig_none (w : World) (g SB n k : Nat) (U : Nat → Int) (m : Nat) (M : Value → Option Value) (h : Ps w g SB n false none U m M) (hk : k < n) (hn : n ≤ 65536) :
    Calls Try.prog 16 #[.pointer (some ⟨g, 0, none⟩), .agg #[.int .u32 0, .int .u32 k]] w (IgP w g SB n false none (updI U k (dec (U k))) m M) := by
  have H := Lib.hid h
  have c1 := h.c350
  have c2 := h.c105
  simp only [Option.map_none] at c2
  have c3 := h.c106
  have c4 := h.col k hk
  have f4 := h.frz (k * 10 + 4)
  have hg := h.ltg
  have hl := h.lt
  have hne := h.ne
  clear h
  obtain ⟨y, hy⟩ : ∃ y, (U k - 1) % 4294967296 = y := ⟨_, rfl⟩
  have HY : Hid (dec (U k) = y) := Lib.hid hy
  go_enter Try.func16, Try.ntmps16
  go_wp2
  go_region
  all_goals
    clear hy
    go_wp2
    go_end0
    rw [HY.out]
    exact ⟨rfl, (H.out.setU hk y).below (((Below.refl _ _).alloc (Nat.le_refl _) _).trans ⟨rfl, rfl, rfl, Nat.le_refl _, fun _ _ => rfl⟩), (((Touch.refl _ w).setCell _ (fun _ => .inl rfl) _).alloc _).drew⟩
/-- The map of uses with one use fewer. -/
noncomputable def decM (M : Value → Option Value) (k : Nat) : Value → Option Value := if dec (cntOf M (ref 0 k)) = 0 then del M (ref 0 k) else upd M (ref 0 k) (.agg #[.int .u32 (dec (cntOf M (ref 0 k)))])
noncomputable def decm (m : Nat) (M : Value → Option Value) (k : Nat) : Nat := if dec (cntOf M (ref 0 k)) = 0 then (if (M (ref 0 k)).isSome then m - 1 else m) else (if (M (ref 0 k)).isSome then m else m + 1)
theorem step_delete {P : Program} {ops : Array Oper} {o : Oper} {a : Act} {w : World} {K : Act → World → Prop} {Q : Exit → Act → World → Prop} {E : Prop} (hgd : o.guard = none) (m x : Operand) (t k : TypeId)
    (ho : o.op = .call { callee := .builtin .delete, args := #[m, x], argTypes := #[t, k] }) (vm vx : Value) (hm : a.eval m = vm) (hx : a.eval x = vx) (w' : World)
    (hrun : ∀ t2 ty, (Builtin.delete_ #[t, t2] ty #[vm, vx]).run P w = .ok (.tuple #[]) w') (h : K (a.put o.dst (.tuple #[])) w') :
    if Region.wanted o (yielded ops a.tmps) = true then Oper.wp P o a w K Q else E := by
  have hw : Region.wanted o (yielded ops a.tmps) = true := by simp [Region.wanted, hgd]
  rw [if_pos hw]
  unfold Oper.wp
  simp [execOp, ho, resolve, invoke, builtin, hm, hx, hrun, Result.andThen]
  exact h
set_option maxRecDepth 100000 in
set_option maxHeartbeats 4000000 in
theorem ig_part (w : World) (g SB PB MB n k : Nat) (U : Nat → Int) (m : Nat) (M : Value → Option Value) (h : Ps w g SB n false (some (PB, MB)) U m M) (hk : k < n) (hn : n ≤ 65536) (hM : Counts M) :
    Calls Try.prog 16 #[.pointer (some ⟨g, 0, none⟩), .agg #[.int .u32 0, .int .u32 k]] w (IgP w g SB n false (some (PB, MB)) (updI U k (dec (U k))) (decm m M k) (decM M k)) := by
  have H := Lib.hid h
  have HM := Lib.hid hM
  have c1 := h.c350
  have c3 := h.c106
  have c4 := h.col k hk
  have f4 := h.frz (k * 10 + 4)
  have hg := h.ltg
  have hl := h.lt
  have hne := h.ne
  clear h hM
  obtain ⟨y, hy⟩ : ∃ y, (U k - 1) % 4294967296 = y := ⟨_, rfl⟩
  have HY : Hid (dec (U k) = y) := Lib.hid hy
  obtain ⟨x, hx⟩ : ∃ x, cntOf M (ref 0 k) = x := ⟨_, rfl⟩
  have HX := Lib.hid hx
  clear hx
  go_enter Try.func16, Try.ntmps16
  go_wp2
  go_region
  all_goals
    clear hy c1 c3 c4 f4
    have H1 : Hid (Ps (((w.setCell ⟨SB, k * 10 + 4, none⟩ (.int .u32 y)).alloc (.cells #[.int .u32 0, .int .u32 k] 29)).drew) g SB n false (some (PB, MB)) (updI U k y) m M) := Lib.hid (((H.out.setU hk y).alloc _).drew)
    have T1 : Hid (Touch (fun b => b = SB ∨ ∃ p, some (PB, MB) = some p ∧ b = p.2) w (((w.setCell ⟨SB, k * 10 + 4, none⟩ (.int .u32 y)).alloc (.cells #[.int .u32 0, .int .u32 k] 29)).drew)) := Lib.hid (((Touch.refl _ w).setCell _ (fun _ => .inl rfl) _).alloc _).drew
    have B1 : Hid ((((w.setCell ⟨SB, k * 10 + 4, none⟩ (.int .u32 y)).alloc (.cells #[.int .u32 0, .int .u32 k] 29)).drew).heap[w.heap.size]? = some (.cells #[.int .u32 0, .int .u32 k] 29 (0, 0))) := Lib.hid (by
      rw [heap_drew, show w.heap.size = (w.setCell ⟨SB, k * 10 + 4, none⟩ (.int .u32 y)).heap.size by simp [World.setCell]]; exact heap_alloc_new _ _)
    have hR : w.heap.size < (((w.setCell ⟨SB, k * 10 + 4, none⟩ (.int .u32 y)).alloc (.cells #[.int .u32 0, .int .u32 k] 29)).drew).heap.size := by simp [heap_drew]
    generalize (((w.setCell ⟨SB, k * 10 + 4, none⟩ (.int .u32 y)).alloc (.cells #[.int .u32 0, .int .u32 k] 29)).drew) = w1 at *
    have c2 := H1.out.c105
    simp only [Option.map_some] at c2
    have hmp := (H1.out.mp _ rfl).1
    simp only at hmp
    have hPB : PB < w1.heap.size := block_lt_of_cell hmp
    have hmi := (H1.out.mp _ rfl).2.1
    have hl1 := (show MapIs w1.drew MB RefKey m M from hmi).look (refKey w1.drew) Try.underlying31 (zero33 _) (ref_key 0 k) false
    have hl2 := (show MapIs ((w1.alloc (.cells #[.int .u32 0] 33)).drew) MB RefKey m M from hmi.alloc _).look (refKey _) Try.underlying31 (zero33 _) (ref_key 0 k) false
    rw [cntOf_get HM.out, HX.out] at hl1 hl2
    have r0 := cell_of_row w1 _ 0 _ _ _ B1.out
    have r1 := cell_of_row w1 _ 1 _ _ _ B1.out
    simp only [List.getElem?_toArray, List.getElem?_cons_zero, List.getElem?_cons_succ] at r0 r1
    have hMB : MB < w1.heap.size := hmi.lt
    have hg1 : g < w1.heap.size := H1.out.ltg
    have hs1 : SB < w1.heap.size := H1.out.lt
    clear hmi
    simp only [ref, Bool.false_eq_true, if_false] at hl1 hl2
    go_wp2
    go_region
    all_goals
      clear hl1 hl2 c2
      have H2 : Hid (Ps ((w1.alloc (.cells #[.int .u32 x] 33)).drew) g SB n false (some (PB, MB)) (updI U k y) m M) := Lib.hid (H1.out.alloc _).drew
      have T2 : Hid (Touch (fun b => b = SB ∨ ∃ p, some (PB, MB) = some p ∧ b = p.2) w ((w1.alloc (.cells #[.int .u32 x] 33)).drew)) := Lib.hid (T1.out.alloc _).drew
      have u0 : ((w1.alloc (.cells #[.int .u32 x] 33)).drew).cell? ⟨w1.heap.size, 0, none⟩ = some (.int .u32 x) := by go_simp
      have u1 : ((w1.alloc (.cells #[.int .u32 x] 33)).drew).frozen? ⟨w1.heap.size, 0, none⟩ = false := by go_simp
      have q0 : ((w1.alloc (.cells #[.int .u32 x] 33)).drew).cell? ⟨w.heap.size, 0, none⟩ = some (.int .u32 0) := by go_simp
      have q1 : ((w1.alloc (.cells #[.int .u32 x] 33)).drew).cell? ⟨w.heap.size, 1, none⟩ = some (.int .u32 k) := by go_simp
      clear r0 r1 hmp H1 T1 B1
      generalize ((w1.alloc (.cells #[.int .u32 x] 33)).drew) = w2 at *
      generalize w1.heap.size = R2 at *
      obtain ⟨z, hz⟩ : ∃ z, (x - 1) % 4294967296 = z := ⟨_, rfl⟩
      have HZ : Hid (dec x = z) := Lib.hid hz
      have H3 : Hid (Ps (w2.setCell ⟨R2, 0, none⟩ (.int .u32 z)) g SB n false (some (PB, MB)) (updI U k y) m M) := Lib.hid (H2.out.keep (by simp [World.setCell]) (fun b _ hb => Below.heap_setCell _ _ _ _ (by
        show b ≠ R2
        rcases hb with rfl | rfl | ⟨p, hp, hb⟩
        · omega
        · omega
        · cases hp; rcases hb with rfl | rfl <;> omega)))
      have T3 : Hid (Touch (fun b => b = SB ∨ ∃ p, some (PB, MB) = some p ∧ b = p.2) w (w2.setCell ⟨R2, 0, none⟩ (.int .u32 z))) := Lib.hid (T2.out.setCell _ (fun hlt => by exfalso; have : R2 < w.heap.size := hlt; omega) _)
      cases hzz : (z == 0) with
      | true =>
        go_wp2
        have hz0 : z = 0 := by simpa using hzz
        have HZ0 := Lib.hid hz0
        have v0 : (w2.setCell ⟨R2, 0, none⟩ (.int .u32 z)).cell? ⟨R2, 0, none⟩ = some (.int .u32 z) := World.cell?_setCell_same _ _ _ u0
        have p0 : (w2.setCell ⟨R2, 0, none⟩ (.int .u32 z)).cell? ⟨w.heap.size, 0, none⟩ = some (.int .u32 0) := (World.cell?_setCell_other _ _ _ _ (fun e => by have := congrArg Addr.block e; simp at this; omega)).trans q0
        have p1 : (w2.setCell ⟨R2, 0, none⟩ (.int .u32 z)).cell? ⟨w.heap.size, 1, none⟩ = some (.int .u32 k) := (World.cell?_setCell_other _ _ _ _ (fun e => by have := congrArg Addr.block e; simp at this; omega)).trans q1
        clear hz0 hzz hz u0 u1 q0 q1
        generalize w2.setCell ⟨R2, 0, none⟩ (.int .u32 z) = w3 at *
        have hmp := (H3.out.mp _ rfl).1
        simp only at hmp
        obtain ⟨w4, hdel, hM4, hO4⟩ := (show MapIs w3.drew MB RefKey m M from (H3.out.mp _ rfl).2.1).drop (refKey _) Try.underlying31 (ref_key 0 k) 29 0
        have HM4 := Lib.hid hM4
        have HO4 := Lib.hid hO4
        have HD : Hid (∀ t2 ty, (Builtin.delete_ #[31, t2] ty #[.map (some MB), .agg #[.int .u32 0, .int .u32 k]]).run Try.prog w3.drew = .ok (.tuple #[]) w4) := Lib.hid (fun t2 ty => hdel)
        clear hM4 hO4 hdel
        go_region_law (refine step_delete rfl (.tmp 45) (.tmp 46) 31 29 rfl _ _ rfl rfl w4 HD.out ?_)
        all_goals
          go_wp2
          go_end0
          have e1 : dec (cntOf M (ref 0 k)) = 0 := by rw [HX.out, HZ.out, HZ0.out]
          refine ⟨rfl, ?_, T3.out.drew.trans ((onlyB_touch HO4.out).mono (fun b _ e => .inr ⟨_, rfl, e⟩))⟩
          rw [HY.out]
          unfold decM decm
          rw [if_pos e1, if_pos e1]
          exact (H3.out.drew).setM HO4.out HM4.out
      | false =>
        go_wp2
        have HZZ := Lib.hid hzz
        have v0 : (w2.setCell ⟨R2, 0, none⟩ (.int .u32 z)).cell? ⟨R2, 0, none⟩ = some (.int .u32 z) := World.cell?_setCell_same _ _ _ u0
        have p0 : (w2.setCell ⟨R2, 0, none⟩ (.int .u32 z)).cell? ⟨w.heap.size, 0, none⟩ = some (.int .u32 0) := (World.cell?_setCell_other _ _ _ _ (fun e => by have := congrArg Addr.block e; simp at this; omega)).trans q0
        have p1 : (w2.setCell ⟨R2, 0, none⟩ (.int .u32 z)).cell? ⟨w.heap.size, 1, none⟩ = some (.int .u32 k) := (World.cell?_setCell_other _ _ _ _ (fun e => by have := congrArg Addr.block e; simp at this; omega)).trans q1
        clear hzz hz u0 u1 q0 q1
        generalize w2.setCell ⟨R2, 0, none⟩ (.int .u32 z) = w3 at *
        have hmp := (H3.out.mp _ rfl).1
        simp only at hmp
        obtain ⟨w4, hup, hM4, hO4⟩ := (show MapIs w3.drew MB RefKey m M from (H3.out.mp _ rfl).2.1).put (refKey _) Try.underlying31 (ref_key 0 k) (.agg #[.int .u32 z])
        have HM4 := Lib.hid hM4
        have HO4 := Lib.hid hO4
        simp only [ref] at hup
        clear hM4 hO4
        go_region
        all_goals
          clear hup
          go_wp2
          go_end0
          have e1 : ¬ dec (cntOf M (ref 0 k)) = 0 := by rw [HX.out, HZ.out]; simpa using HZZ.out
          refine ⟨rfl, ?_, T3.out.drew.trans ((onlyB_touch HO4.out).mono (fun b _ e => .inr ⟨_, rfl, e⟩))⟩
          rw [HY.out]
          unfold decM decm
          rw [if_neg e1, if_neg e1, HX.out, HZ.out]
          exact (H3.out.drew).setM HO4.out HM4.out
def endU (U : Nat → Int) (k : Nat) (hit : Bool) : Nat → Int := if hit then updI U k (dec (U k)) else U
noncomputable def endm (m : Nat) (M : Value → Option Value) (k : Nat) (hit : Bool) (pt : Option (Nat × Nat)) : Nat := if hit && pt.isSome then decm m M k else m
noncomputable def endM (M : Value → Option Value) (k : Nat) (hit : Bool) (pt : Option (Nat × Nat)) : Value → Option Value := if hit && pt.isSome then decM M k else M
theorem ig16 (w : World) (g SB n k : Nat) (dead : Bool) (pt : Option (Nat × Nat)) (U : Nat → Int) (m : Nat) (M : Value → Option Value) (h : Ps w g SB n dead pt U m M) (hk : k < n) (hn : n ≤ 65536) (hM : Counts M) :
    Calls Try.prog 16 #[.pointer (some ⟨g, 0, none⟩), .agg #[.int .u32 0, .int .u32 k]] w (IgP w g SB n dead pt (endU U k (!dead)) (endm m M k (!dead) pt) (endM M k (!dead) pt)) := by
  cases dead with
  | true => exact ig_dead w g SB n k pt U m M h
  | false =>
    rcases pt with _ | ⟨PB, MB⟩
    · exact ig_none w g SB n k U m M h hk hn
    · exact ig_part w g SB PB MB n k U m M h hk hn hM
end Go.Proofs.Ytomgcoggplaklaa.ch
