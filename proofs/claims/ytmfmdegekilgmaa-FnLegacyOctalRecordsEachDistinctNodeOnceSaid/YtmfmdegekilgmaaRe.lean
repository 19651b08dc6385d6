/-
  The legacy octal table: recording.
-/
import Derived.Test.YtmfmdegekilgmaaLo
import Derived.Test.YtmfmdegekilgmaaMk
import Derived.Deep.RegionLaw
import Derived.LaidEql
import Derived.BigRegion
import Derived.Carry
namespace Go.Proofs.Ytmfmdegekilgmaa.lo
open Go.ChangeShapes Go.WideShapes Go.ChangeAt Go.RowKit Go.Deep Go.Proofs.Ytmfmdegekilgmaa.mk
set_option linter.unusedVariables false

/-- But for the blocks F, what was there is as it was. -/
structure Touch (F : Nat → Prop) (w w' : World) : Prop where
  os : w'.os = w.os
  tape : w'.tape = w.tape
  output : w'.output = w.output
  size : w.heap.size ≤ w'.heap.size
  block : ∀ k, k < w.heap.size → ¬ F k → w'.heap[k]? = w.heap[k]?
theorem Touch.refl (F : Nat → Prop) (w : World) : Touch F w w := ⟨rfl, rfl, rfl, Nat.le_refl _, fun _ _ _ => rfl⟩
theorem Touch.trans {F : Nat → Prop} {a b c : World} (h : Touch F a b) (k : Touch F b c) : Touch F a c :=
  ⟨k.os.trans h.os, k.tape.trans h.tape, k.output.trans h.output, Nat.le_trans h.size k.size, fun i hi hn => (k.block i (Nat.lt_of_lt_of_le hi h.size) hn).trans (h.block i hi hn)⟩
theorem Touch.mono {F G : Nat → Prop} {w w' : World} (h : Touch F w w') (e : ∀ k, k < w.heap.size → F k → G k) : Touch G w w' := ⟨h.os, h.tape, h.output, h.size, fun k hk hn => h.block k hk fun f => hn (e k hk f)⟩
theorem Touch.drew {F : Nat → Prop} {a w : World} (h : Touch F a w) : Touch F a w.drew := ⟨h.os, h.tape, h.output, h.size, h.block⟩
theorem Touch.alloc {F : Nat → Prop} {a w : World} (h : Touch F a w) (o : Obj) : Touch F a (w.alloc o) :=
  h.trans ⟨rfl, rfl, rfl, by simp, fun k hk _ => Below.heap_alloc _ _ _ hk⟩
theorem Touch.setCell {F : Nat → Prop} {a w : World} (h : Touch F a w) (p : Addr) (hp : p.block < a.heap.size → F p.block) (u : Value) : Touch F a (w.setCell p u) :=
  ⟨h.os, h.tape, h.output, by rw [show (w.setCell p u).heap.size = w.heap.size by simp [World.setCell]]; exact h.size, fun k hk hn => (Below.heap_setCell _ _ _ _ (fun e => hn (by rw [e]; exact hp (by rw [← e]; exact hk)))).trans (h.block k hk hn)⟩
theorem Touch.grown {F : Nat → Prop} {a w w' : World} {row : Option Nat} (h : Touch F a w) (hg : w.grownBy w' row) (hr : ∀ k, row = some k → k < a.heap.size → F k) : Touch F a w' :=
  ⟨hg.os.trans h.os, hg.tape.trans h.tape, hg.output.trans h.output, Nat.le_trans h.size hg.size, fun k hk hn => (hg.block k (Nat.lt_of_lt_of_le hk h.size) (fun e => hn (hr k e.symm hk))).trans (h.block k hk hn)⟩
theorem Touch.below {F : Nat → Prop} {w w' : World} (h : Touch F w w') {B : Nat} (hB : B ≤ w.heap.size) (hF : ∀ k, F k → B ≤ k) : Below B w w' :=
  ⟨h.os, h.tape, h.output, h.size, fun k hk => h.block k (by omega) (fun f => by have := hF k f; omega)⟩
theorem Touch.of_below {w w' : World} (h : Below w.heap.size w w') (F : Nat → Prop) : Touch F w w' := ⟨h.os, h.tape, h.output, h.size, fun k hk _ => h.block k hk⟩
theorem Touch.then {F : Nat → Prop} {a w w' : World} (h : Touch F a w) (hb : Below w.heap.size w w') : Touch F a w' := ⟨hb.os.trans h.os, hb.tape.trans h.tape, hb.output.trans h.output, Nat.le_trans h.size hb.size, fun k hk hn => (hb.block k (Nat.lt_of_lt_of_le hk h.size)).trans (h.block k hk hn)⟩
theorem onlyB_touch {b : Nat} {w w' : World} (h : OnlyB b w w') : Touch (fun j => j = b) w w' := ⟨h.os, h.tape, h.output, by rw [h.size]; exact Nat.le_refl _, fun k _ hn => h.block k hn⟩

theorem pc_254 : pc[254]? = some (.int .i64 0) := by kernel_rfl
theorem pc_255 : pc[255]? = some (.int .i64 0) := by kernel_rfl
/-- A parser whose lexer flags a legacy octal literal lies at block g; its table is m. -/
def Pa (w : World) (g : Nat) (m : Option Nat) : Prop := w.cell? ⟨g, 281, none⟩ = some (.bool true) ∧ w.cell? ⟨g, 152, none⟩ = some (.map m) ∧ w.frozen? ⟨g, 152, none⟩ = false ∧ w.cell? ⟨g, 254, none⟩ = some (.int .i64 0) ∧ w.cell? ⟨g, 255, none⟩ = some (.int .i64 0)
theorem Pa.lt {w : World} {g : Nat} {m : Option Nat} (h : Pa w g m) : g < w.heap.size := block_lt_of_cell h.1
theorem Pa.of_block {w w' : World} {g : Nat} {m : Option Nat} (h : Pa w g m) (e : w'.heap[g]? = w.heap[g]?) : Pa w' g m := by
  obtain ⟨h1, h2, h3, h4, h5⟩ := h
  have c : ∀ j, w'.cell? ⟨g, j, none⟩ = w.cell? ⟨g, j, none⟩ := fun j => World.cell?_of_block (a := ⟨g, j, none⟩) e
  have f : w'.frozen? ⟨g, 152, none⟩ = w.frozen? ⟨g, 152, none⟩ := World.frozen?_of_block (a := ⟨g, 152, none⟩) e
  exact ⟨(c _).trans h1, (c _).trans h2, f.trans h3, (c _).trans h4, (c _).trans h5⟩
theorem Pa.set {w : World} {g : Nat} {m : Option Nat} (h : Pa w g m) (m' : Option Nat) : Pa (w.setCell ⟨g, 152, none⟩ (.map m')) g m' := by
  obtain ⟨h1, h2, h3, h4, h5⟩ := h
  have ne : ∀ j, j ≠ 152 → (⟨g, j, none⟩ : Addr) ≠ ⟨g, 152, none⟩ := fun j hj e => hj (by simpa using congrArg Addr.off e)
  refine ⟨?_, World.cell?_setCell_same _ _ _ h2, ?_, ?_, ?_⟩
  · rw [World.cell?_setCell_other _ _ _ _ (fun e => ne 281 (by omega) e.symm)]; exact h1
  · rw [World.frozen?_setCell]; exact h3
  · rw [World.cell?_setCell_other _ _ _ _ (fun e => ne 254 (by omega) e.symm)]; exact h4
  · rw [World.cell?_setCell_other _ _ _ _ (fun e => ne 255 (by omega) e.symm)]; exact h5
def NewPa (w : World) (e : Ending) (w' : World) : Prop := e = .returned (.pointer (some ⟨w.heap.size, 0, none⟩)) ∧ Pa w' w.heap.size none ∧ Below w.heap.size w w' ∧ w'.heap.size = w.heap.size + 1
set_option maxRecDepth 100000 in
set_option maxHeartbeats 2000000 in
theorem newPa (w : World) : Calls Try.prog 7 #[.bool true] w (NewPa w) := by
  have p1 := pc_281
  go_enter Try.func7, Try.ntmps7
  go_wp2_with fail
  refine pc_wp rfl ?_
  go_simp
  go_wp2_with fail
  go_ret
  have hs : 281 < pc.size := (Array.getElem?_eq_some_iff.1 pc_281).1
  refine ⟨rfl, ⟨?_, ?_, ?_, ?_, ?_⟩, (Below.refl _ _).alloc (Nat.le_refl _) _, by simp⟩
  · exact (cell_of_row _ _ 281 _ _ _ (heap_alloc_new w _)).trans (Array.getElem?_setIfInBounds_self_of_lt hs)
  · exact (cell_of_row _ _ 152 _ _ _ (heap_alloc_new w _)).trans ((Array.getElem?_setIfInBounds_ne (by omega)).trans pc_152)
  · exact frozen_of_row _ _ 152 _ _ (heap_alloc_new w _)
  · exact (cell_of_row _ _ 254 _ _ _ (heap_alloc_new w _)).trans ((Array.getElem?_setIfInBounds_ne (by omega)).trans pc_254)
  · exact (cell_of_row _ _ 255 _ _ _ (heap_alloc_new w _)).trans ((Array.getElem?_setIfInBounds_ne (by omega)).trans pc_255)

set_option maxHeartbeats 1000000 in
theorem range14 (w : World) (g : Nat) (h1 : w.cell? ⟨g, 254, none⟩ = some (.int .i64 0)) (h2 : w.cell? ⟨g, 255, none⟩ = some (.int .i64 0)) (hg : g < w.heap.size) :
    Calls Try.prog 14 #[.pointer (some ⟨g, 201, none⟩)] w fun e w' => e = .returned (.agg #[.int .i32 0, .int .i32 0]) ∧ Touch (fun _ => False) w w' := by
  go_enter Try.func14, Try.ntmps14
  go_wp2
  go_region
  all_goals
    go_wp2
    exact bodyPost_ret (v := .agg #[.int .i32 0, .int .i32 0]) (by simp [results, Try.results14, go_sem]) rfl ⟨rfl, ((Touch.refl _ w).alloc _).drew⟩

/-- The nodes: node p lies at block N p. -/
def NodesAt (w : World) (N : Nat → Nat) : Prop := ∀ p, p < 256 → w.heap[N p]? = some (.cells #[.float .f64 0] 164 (0, 0))
def Inj (N : Nat → Nat) : Prop := ∀ p q, p < 256 → q < 256 → N p = N q → p = q
def key (N : Nat → Nat) (p : Nat) : Value := .iface 27 (.pointer (some ⟨N p, 0, none⟩))
def Nodes (N : Nat → Nat) (v : Value) : Prop := ∃ p, p < 256 ∧ v = key N p
theorem Nodes.key (N : Nat → Nat) (p : Nat) (hp : p < 256) : Nodes N (key N p) := ⟨p, hp, rfl⟩
theorem key_inj {N : Nat → Nat} (hI : Inj N) {p q : Nat} (hp : p < 256) (hq : q < 256) (e : key N p = key N q) : p = q := by
  refine hI p q hp hq ?_
  simpa [key] using e
theorem info27 : (Try.prog.info? 27).map (·.comparable) = some true := by kernel_rfl
theorem info164 : (Try.prog.info? 164).map (fun i => decide (i.size ≠ 0)) = some true := by kernel_rfl
theorem check_it (w : World) (em : Bool) (n : Nat) (v : Option Addr) : (Instr.checkKey em (n + 2) 37 (.iface 27 (.pointer v))).run Try.prog w = .ok () w := by
  obtain ⟨i, hi, hc⟩ := Option.map_eq_some_iff.1 info27
  simp [Instr.checkKey, run_underlying Try.underlying37, run_underlying Try.underlying27, typeInfo, hi, hc]
theorem keyOk (w : World) (N : Nat → Nat) (hI : Inj N) (hN : NodesAt w N) : KeyOk Try.prog 37 (Nodes N) w := by
  obtain ⟨i, hi, hc⟩ := Option.map_eq_some_iff.1 info27
  obtain ⟨j, hj, hs⟩ := Option.map_eq_some_iff.1 info164
  have hs' : j.size ≠ 0 := by simpa using hs
  refine ⟨?_, ?_, ⟨_, Try.underlying37, ?_⟩, ?_⟩
  · rintro em k ⟨p, hp, rfl⟩
    exact check_it w em 9998 _
  · rintro k k' ⟨p, hp, rfl⟩ ⟨q, hq, rfl⟩
    by_cases e : p = q
    · subst e
      exact ⟨true, run_equalIn_iface_ptr_same w 9998 _ Try.underlying37 Try.underlying27 hi hc hj, by simp⟩
    · refine ⟨false, run_equalIn_iface_ptr_other w 9998 Try.underlying37 Try.underlying27 hi hc hj hs' (a := ⟨N p, 0, none⟩) (b := ⟨N q, 0, none⟩) (fun e' => e (hI p q hp hq (by simpa using e'))) (hN p hp) (hN q hq), ?_⟩
      constructor
      · intro h; cases h
      · intro h; exact absurd (key_inj hI hp hq h) e
  · rintro k k' ⟨p, hp, rfl⟩ ⟨q, hq, rfl⟩
    exact .inl rfl
  · rintro k ⟨p, hp, rfl⟩
    simp [key, Instr.sameBits]

/-- What recording node p leaves. -/
def RecP (w : World) (g : Nat) (N : Nat → Nat) (p n : Nat) (M : Value → Option Value) (b : Nat) (e : Ending) (w' : World) : Prop :=
  e = .returned (.tuple #[]) ∧ Pa w' g (some b) ∧ MapIs w' b (Nodes N) (if (M (key N p)).isSome then n else n + 1) (upd M (key N p) (.agg #[.int .i32 0, .int .i32 0])) ∧ Touch (fun j => j = g ∨ j = b) w w'
set_option maxRecDepth 100000 in
set_option maxHeartbeats 4000000 in
theorem rec13 (w : World) (g b : Nat) (N : Nat → Nat) (p n : Nat) (M : Value → Option Value) (hp : p < 256) (hI : Inj N) (hN : NodesAt w N) (hP : Pa w g (some b)) (hM : MapIs w b (Nodes N) n M) (hgb : g ≠ b) :
    Calls Try.prog 13 #[.pointer (some ⟨g, 0, none⟩), .iface 27 (.pointer (some ⟨N p, 0, none⟩))] w (RecP w g N p n M b) := by
  have HI := Lib.hid hI
  have HNd := Lib.hid hN
  have HP := Lib.hid hP
  have HM := Lib.hid hM
  have hgl := hP.lt
  have fin : ∀ (w1 w2 : World), Touch (fun _ => False) w.drew w1 → MapIs w2 b (Nodes N) (if (M (key N p)).isSome then n else n + 1) (upd M (key N p) (.agg #[.int .i32 0, .int .i32 0])) → OnlyB b w1 w2 → RecP w g N p n M b (.returned (.tuple #[])) w2 := by
    intro w1 w2 hT hM hO
    have hT' : Touch (fun j => j = g ∨ j = b) w w2 := (show Touch (fun j => j = g ∨ j = b) w w1 from ⟨hT.os, hT.tape, hT.output, hT.size, fun k hk _ => hT.block k hk (by simp)⟩).trans ((onlyB_touch hO).mono (fun _ _ h => .inr h))
    refine ⟨rfl, HP.out.of_block ?_, hM, hT'⟩
    rw [hO.block g hgb]; exact hT.block g hgl (by simp)
  have FIN := Lib.hid fin
  clear hI hN hP hM fin
  have hm := fun (w : World) (r : Option Nat) => run_eql_map_nil (P := Try.prog) w 120 37 53 r Try.underlying120
  obtain ⟨c1, c2, c3, c4, c5⟩ := HP.out
  go_enter Try.func13, Try.ntmps13
  go_wp2
  clear c1 c2 c3 c4 c5
  obtain ⟨c1, c2, c3, c4, c5⟩ := HP.out
  have HKo := Lib.hid (fun w' (h : NodesAt w' N) => keyOk w' N HI.out h)
  go_region_law (go_simp; go_at_call 14; refine (range14 _ g (by exact c4) (by exact c5) (by exact hgl)).mono ?_; rintro e w1 ⟨rfl, hb1⟩; have HT1 := Lib.hid (show Touch (fun _ => False) w.drew w1 from hb1); obtain ⟨w2, hup, hM2, hO2⟩ := MapIs.put (P := Try.prog) (kt := 37) (et := 53) (HM.out.of_block (HT1.out.block b HM.out.lt (fun h => h))) (HKo.out w1 (fun p hp => (HT1.out.block _ (lt_of_block (HNd.out p hp)) (fun h => h)).trans (HNd.out p hp))) Try.underlying120 (Nodes.key N p hp) (.agg #[.int .i32 0, .int .i32 0]); have hup2 : (Instr.mapUpdate 120 (.map (some b)) (.iface 27 (.pointer (some ⟨N p, 0, none⟩))) (.agg #[.int .i32 0, .int .i32 0])).run Try.prog w1 = .ok () w2 := hup; clear hup; have HM2 := Lib.hid hM2; have HO2 := Lib.hid hO2; have d2 : w1.cell? ⟨g, 152, none⟩ = some (.map (some b)) := ((World.cell?_of_block (a := ⟨g, 152, none⟩) (HT1.out.block g hgl (fun h => h))).trans c2); clear hb1 hM2 hO2)
  all_goals (go_wp2; go_end0; exact FIN.out _ _ HT1.out HM2.out HO2.out)

set_option maxRecDepth 100000 in
set_option maxHeartbeats 4000000 in
theorem rec13n (w : World) (g : Nat) (N : Nat → Nat) (p : Nat) (hp : p < 256) (hI : Inj N) (hN : NodesAt w N) (hP : Pa w g none) (hne : ∀ q, q < 256 → N q ≠ g) :
    Calls Try.prog 13 #[.pointer (some ⟨g, 0, none⟩), .iface 27 (.pointer (some ⟨N p, 0, none⟩))] w (RecP w g N p 0 (fun _ => none) w.heap.size) := by
  have HI := Lib.hid hI
  have HNd0 := Lib.hid hN
  have HP0 := Lib.hid hP
  have HNe := Lib.hid hne
  have hgl0 := hP.lt
  obtain ⟨c1, c2, c3, c4, c5⟩ := hP
  clear hI hN hne
  have hm := fun (w : World) (r : Option Nat) => run_eql_map_nil (P := Try.prog) w 120 37 53 r Try.underlying120
  have hmm := @run_makeMap Try.prog
  go_enter Try.func13, Try.ntmps13
  go_wp2
  clear c1 c2 c3 c4 c5 hmm
  have HP : Hid (Pa ((w.setCell ⟨g, 152, none⟩ (.map (some w.heap.size))).alloc (.map #[] 0)) g (some w.heap.size)) := Lib.hid ((HP0.out.set _).of_block (Below.heap_alloc _ _ _ (by simpa using hgl0)))
  have HM : Hid (MapIs ((w.setCell ⟨g, 152, none⟩ (.map (some w.heap.size))).alloc (.map #[] 0)) w.heap.size (Nodes N) 0 (fun _ => none)) := Lib.hid (by have h := MapIs.made (w.setCell ⟨g, 152, none⟩ (.map (some w.heap.size))) (Nodes N); simpa using h)
  have HNd : Hid (NodesAt ((w.setCell ⟨g, 152, none⟩ (.map (some w.heap.size))).alloc (.map #[] 0)) N) := Lib.hid (fun q hq => by
    rw [Below.heap_alloc _ _ _ (by simpa using lt_of_block (HNd0.out q hq)), Below.heap_setCell _ _ _ _ (HNe.out q hq)]; exact HNd0.out q hq)
  have HT0 : Hid (Touch (fun j => j = g ∨ j = w.heap.size) w ((w.setCell ⟨g, 152, none⟩ (.map (some w.heap.size))).alloc (.map #[] 0))) := Lib.hid (((Touch.refl _ w).setCell _ (fun _ => .inl rfl) _).alloc _)
  have hgb : g ≠ w.heap.size := by omega
  generalize ((w.setCell ⟨g, 152, none⟩ (.map (some w.heap.size))).alloc (.map #[] 0)) = w0 at *
  generalize hb : w.heap.size = b at *
  have HB := Lib.hid hb
  clear hb
  have hgl := HP.out.lt
  have fin : ∀ (w1 w2 : World), Touch (fun _ => False) w0.drew w1 → MapIs w2 b (Nodes N) (if ((fun _ => none : Value → Option Value) (key N p)).isSome then 0 else 0 + 1) (upd (fun _ => none) (key N p) (.agg #[.int .i32 0, .int .i32 0])) → OnlyB b w1 w2 → RecP w g N p 0 (fun _ => none) b (.returned (.tuple #[])) w2 := by
    intro w1 w2 hT hM hO
    have hT' : Touch (fun j => j = g ∨ j = b) w0 w2 := (show Touch (fun j => j = g ∨ j = b) w0 w1 from ⟨hT.os, hT.tape, hT.output, hT.size, fun k hk _ => hT.block k hk (by simp)⟩).trans ((onlyB_touch hO).mono (fun _ _ h => .inr h))
    refine ⟨rfl, HP.out.of_block ?_, hM, HT0.out.trans hT'⟩
    rw [hO.block g hgb]; exact hT.block g hgl (by simp)
  have FIN := Lib.hid fin
  clear fin
  obtain ⟨c1, c2, c3, c4, c5⟩ := HP.out
  have HKo := Lib.hid (fun w' (h : NodesAt w' N) => keyOk w' N HI.out h)
  go_region_law (go_simp; go_at_call 14; refine (range14 _ g (by exact c4) (by exact c5) (by exact hgl)).mono ?_; rintro e w1 ⟨rfl, hb1⟩; have HT1 := Lib.hid (show Touch (fun _ => False) w0.drew w1 from hb1); obtain ⟨w2, hup, hM2, hO2⟩ := MapIs.put (P := Try.prog) (kt := 37) (et := 53) (HM.out.of_block (HT1.out.block b HM.out.lt (fun h => h))) (HKo.out w1 (fun p hp => (HT1.out.block _ (lt_of_block (HNd.out p hp)) (fun h => h)).trans (HNd.out p hp))) Try.underlying120 (Nodes.key N p hp) (.agg #[.int .i32 0, .int .i32 0]); have hup2 : (Instr.mapUpdate 120 (.map (some b)) (.iface 27 (.pointer (some ⟨N p, 0, none⟩))) (.agg #[.int .i32 0, .int .i32 0])).run Try.prog w1 = .ok () w2 := hup; clear hup; have HM2 := Lib.hid hM2; have HO2 := Lib.hid hO2; have d2 : w1.cell? ⟨g, 152, none⟩ = some (.map (some b)) := ((World.cell?_of_block (a := ⟨g, 152, none⟩) (HT1.out.block g hgl (fun h => h))).trans c2); clear hb1 hM2 hO2)
  all_goals (go_wp2; go_end0; rw [HB.out]; exact FIN.out _ _ HT1.out HM2.out HO2.out)

theorem rec9 (w : World) (g : Nat) (N : Nat → Nat) (p n : Nat) (M : Value → Option Value) (b : Nat) (h : Calls Try.prog 13 #[.pointer (some ⟨g, 0, none⟩), .iface 27 (.pointer (some ⟨N p, 0, none⟩))] w (RecP w g N p n M b)) :
    Calls Try.prog 9 #[.pointer (some ⟨g, 0, none⟩), .pointer (some ⟨N p, 0, none⟩)] w (RecP w g N p n M b) := by
  have H := Lib.hid h
  clear h
  go_enter Try.func9, Try.ntmps9
  go_wp2_with fail
  refine H.out.mono ?_
  rintro e w' ⟨rfl, h1, h2, h3⟩
  have FIN : Hid (RecP w g N p n M b (.returned (.tuple #[])) w') := Lib.hid ⟨rfl, h1, h2, h3⟩
  clear h1 h2 h3
  go_simp
  go_wp2_with fail
  go_end0
  exact FIN.out
theorem count11 (w : World) (g b : Nat) (N : Nat → Nat) (n : Nat) (M : Value → Option Value) (hP : Pa w g (some b)) (hM : MapIs w b (Nodes N) n M) : Calls Try.prog 11 #[.pointer (some ⟨g, 0, none⟩)] w fun e w' => e = .returned (.int .i64 n) ∧ w = w' := by
  obtain ⟨c1, c2, c3, c4, c5⟩ := hP
  have hl := hM.len (P := Try.prog) Try.underlying120 3
  clear hM
  go_enter Try.func11, Try.ntmps11
  go_wp2
  go_ret
  exact ⟨rfl, rfl⟩
theorem count11n (w : World) (g : Nat) (hP : Pa w g none) : Calls Try.prog 11 #[.pointer (some ⟨g, 0, none⟩)] w fun e w' => e = .returned (.int .i64 0) ∧ w = w' := by
  obtain ⟨c1, c2, c3, c4, c5⟩ := hP
  go_enter Try.func11, Try.ntmps11
  go_wp2
  go_ret
  exact ⟨rfl, rfl⟩
theorem isnil10 (w : World) (g : Nat) (m : Option Nat) (hP : Pa w g m) : Calls Try.prog 10 #[.pointer (some ⟨g, 0, none⟩)] w fun e w' => e = .returned (.bool m.isNone) ∧ w = w' := by
  obtain ⟨c1, c2, c3, c4, c5⟩ := hP
  have hm := fun (w : World) (r : Option Nat) => run_eql_map_nil (P := Try.prog) w 120 37 53 r Try.underlying120
  go_enter Try.func10, Try.ntmps10
  go_wp2
  go_ret
  exact ⟨rfl, rfl⟩
end Go.Proofs.Ytmfmdegekilgmaa.lo
