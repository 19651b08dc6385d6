/-
  Relocated declarations: the closure, a binding turned into an expression.
-/
import Derived.Test.YthhlioepgfjknaaRb
import Derived.Deep.RegionWith
namespace Go.Proofs.Ythhlioepgfjknaa.rl
open Go.ChangeShapes Go.WideShapes Go.ChangeAt Go.RowKit Go.Deep Go.Proofs.Ythhlioepgfjknaa.ch
set_option linter.unusedVariables false
set_option linter.unusedSimpArgs false
set_option maxRecDepth 100000
set_option maxHeartbeats 4000000
theorem Own.far {B b : Nat} {w : World} {v : Value} {k : Nat} {xs : List Value} (h : Own B w v k xs) (hb : b < B) : ¬ v.ownBlock = some b := fun e => by have := World.ownsRowF.lt h b e; omega
theorem Own.past {B b : Nat} {w : World} {v : Value} {k : Nat} {xs : List Value} (h : Own B w v k xs) (hb : w.heap.size ≤ b) : ¬ v.ownBlock = some b := fun e => by have := World.ownsRowF.lt h b e; omega
theorem Own.of_block {B : Nat} {w w' : World} {v : Value} {k : Nat} {xs : List Value} (h : Own B w v k xs) (he : ∀ b, v.ownBlock = some b → w'.heap[b]? = w.heap[b]?) : Own B w' v k xs := by
  obtain ⟨hl, h⟩ := h
  refine ⟨hl, ?_⟩
  rcases h with h | ⟨g, cap, cur, fz, rfl, h1, h2, h3⟩
  · exact .inl h
  · exact .inr ⟨g, cap, cur, fz, rfl, h1, (he g rfl).trans h2, h3⟩
theorem Own.cells {B b : Nat} {w : World} {v : Value} {k : Nat} {xs : List Value} (h : Own B w v k xs) (hb : v.ownBlock = some b) : ∃ cur fz, w.heap[b]? = some (.cells cur 76 fz) := by
  obtain ⟨hl, h⟩ := h
  rcases h with ⟨rfl, _⟩ | ⟨g, cap, cur, fz, rfl, h1, h2, h3⟩
  · cases hb
  · cases hb
    exact ⟨cur, fz, h2⟩
theorem Tc {F : Nat → Prop} {w w' : World} (ht : ch.Touch F w w') {b o : Nat} (hb : b < w.heap.size) (hn : ¬ F b) : w'.cell? ⟨b, o, none⟩ = w.cell? ⟨b, o, none⟩ := World.cell?_of_block (a := ⟨b, o, none⟩) (ht.block b hb hn)
/-- What the closure and those who call it leave. -/
def CloP (B : Nat) (w : World) (p s n : Nat) (mode : Int) (cur mod : Nat) (depth : Int) (rv : Value) (k : Nat) (xs : List Value) (l i : Int) (e : Ending) (w' : World) : Prop :=
  ∃ d rv', e = .returned (.agg #[d, .int .i32 l]) ∧ NN d ∧ St w' p s n mode cur mod depth rv' ∧ Own B w' rv' (k + 1) (xs ++ rec3 l i) ∧ ch.Touch (fun b => b = p ∨ b = s ∨ rv.ownBlock = some b) w w'
theorem clo41 (B : Nat) (w : World) (p s n : Nat) (mode : Int) (cur mod : Nat) (depth : Int) (rv : Value) (k : Nat) (xs : List Value) (bx : Nat) (l : Int) (i : Nat)
    (H : St w p s n mode cur mod depth rv) (hOwn : Own B w rv k xs) (hk : k ≤ 65536) (hn : n ≤ 65536) (hi : i < n) (hB : B ≤ w.heap.size) (hp : p < B) (hs : s < B) (hb : bx < B) (hbp : bx ≠ p) (hcb : w.cell? ⟨bx, 0, none⟩ = some (ptr p)) :
    Calls Try.prog 41 #[.agg #[.int .i32 l], .agg #[.int .u32 0, .int .u32 i], ptr bx] w (CloP B w p s n mode cur mod depth rv k xs l i) := by
  have HH := Lib.hid H
  have HO := Lib.hid hOwn
  have HCB := Lib.hid hcb
  have HI := Lib.hid hi
  clear H hOwn hcb hi
  go_enter Try.func41, Try.ntmps41
  go_upto_region 1 with (fail)
  have ht0 : ch.Touch (fun _ => False) w (((w.alloc (.cells #[.int .i32 l] 28)).alloc (.cells #[.int .u32 0, .int .u32 i] 74)).alloc (.cells #[.nilIface, .int .i32 0] 30)) := (((ch.Touch.refl _ _).alloc _).alloc _).alloc _
  have hcs : (((w.alloc (.cells #[.int .i32 l] 28)).alloc (.cells #[.int .u32 0, .int .u32 i] 74)).alloc (.cells #[.nilIface, .int .i32 0] 30)).heap.size = w.heap.size + 3 := by simp
  have hc3 : (((w.alloc (.cells #[.int .i32 l] 28)).alloc (.cells #[.int .u32 0, .int .u32 i] 74)).alloc (.cells #[.nilIface, .int .i32 0] 30)).cell? ⟨w.heap.size, 0, none⟩ = some (.int .i32 l) := by go_simp
  have hc4 : (((w.alloc (.cells #[.int .i32 l] 28)).alloc (.cells #[.int .u32 0, .int .u32 i] 74)).alloc (.cells #[.nilIface, .int .i32 0] 30)).cell? ⟨w.heap.size + 1, 0, none⟩ = some (.int .u32 0) := by go_simp
  have hc4' : (((w.alloc (.cells #[.int .i32 l] 28)).alloc (.cells #[.int .u32 0, .int .u32 i] 74)).alloc (.cells #[.nilIface, .int .i32 0] 30)).cell? ⟨w.heap.size + 1, 1, none⟩ = some (.int .u32 i) := by go_simp
  have hx5 : (((w.alloc (.cells #[.int .i32 l] 28)).alloc (.cells #[.int .u32 0, .int .u32 i] 74)).alloc (.cells #[.nilIface, .int .i32 0] 30)).heap[w.heap.size + 2]? = some (.cells #[.nilIface, .int .i32 0] 30 (0, 0)) := by
    have := heap_alloc_new ((w.alloc (.cells #[.int .i32 l] 28)).alloc (.cells #[.int .u32 0, .int .u32 i] 74)) (.cells #[.nilIface, .int .i32 0] 30)
    simpa using this
  refine reg_use (ops := opsR) (by kernel_rfl) ?_
  generalize (((w.alloc (.cells #[.int .i32 l] 28)).alloc (.cells #[.int .u32 0, .int .u32 i] 74)).alloc (.cells #[.nilIface, .int .i32 0] 30)) = w1 at *
  have H1 : St w1 p s n mode cur mod depth rv := HH.out.touch ht0 id id
  have hO1 : Own B w1 rv k xs := HO.out.of_block fun b hb => ht0.block b (World.ownsRowF.lt HO.out b hb).2 id
  refine regR B w1 p s n mode cur mod depth rv k xs bx w.heap.size (w.heap.size + 1) l i (by kernel_rfl) rfl rfl rfl H1 hO1 hk (by omega) ((World.cell?_of_block (a := ⟨bx, 0, none⟩) (ht0.block bx (by omega) id)).trans HCB.out) hc3 hc4 hc4'
    (HO.out.far hp) (HO.out.far hb) (HO.out.past (by omega)) (HO.out.past (by omega)) ?_
  intro t w2 htw hown
  simp only [Act.put, List.setIfInBounds_toArray, List.set_cons_zero, List.set_cons_succ]
  have hpo1 := hO1.far hp
  have hso1 := hO1.far hs
  have hbo1 := hO1.far hb
  have hpl := H1.lt
  have hbl : bx < w1.heap.size := by omega
  have H3 := Lib.hid ((H1.touch htw hpo1 hso1).put t.v)
  have hO3 := Lib.hid (hown.of_block (w' := w2.setCell ⟨p, 196, none⟩ t.v) fun b hb' => Below.heap_setCell _ _ _ _ (fun e => hown.far hp (by rw [hb', e])))
  have ht3 : ch.Touch (fun b => b = p ∨ b = s ∨ rv.ownBlock = some b) w1 (w2.setCell ⟨p, 196, none⟩ t.v) := (htw.mono fun b _ h => .inr (.inr h)).setCell _ (fun _ => .inl rfl) _
  have hT : ∀ b, w.heap.size ≤ b → ¬ (b = p ∨ b = s ∨ rv.ownBlock = some b) := by
    rintro b hb1 (h | h | h)
    · omega
    · omega
    · exact HO.out.past hb1 h
  have k3 := (Tc ht3 (by omega) (hT _ (by omega))).trans hc3
  have k4 := (Tc ht3 (by omega) (hT _ (by omega))).trans hc4
  have k4' := (Tc ht3 (by omega) (hT _ (by omega))).trans hc4'
  have k5 := (ht3.block (w.heap.size + 2) (by omega) (hT _ (by omega))).trans hx5
  have kb : (w2.setCell ⟨p, 196, none⟩ t.v).cell? ⟨bx, 0, none⟩ = some (ptr p) := (World.cell?_of_block (a := ⟨bx, 0, none⟩) ((Below.heap_setCell _ _ _ _ hbp).trans (htw.block bx hbl hbo1))).trans ((Tc ht0 (by omega) id).trans HCB.out)
  have HT3 := Lib.hid ht3
  have hs3 := ht3.size
  clear hc3 hc4 hc4' hx5 htw ht3 H1 hO1
  generalize w2.setCell ⟨p, 196, none⟩ t.v = W3 at *
  go_upto_region 3 with (go_at_call 42; refine (use42 _ p s n mode cur mod depth t.v i H3.out HI.out hn).mono ?_; rintro _ W4 ⟨rfl, H4, T4⟩)
  have hb1 : w.heap.size + 2 < W3.heap.size := by omega
  have hns : ∀ b, w.heap.size ≤ b → ¬ b = s := fun b h e => by omega
  have m3 := (Tc T4 (o := 0) (by omega) (hns w.heap.size (by omega))).trans k3
  have m4 := (Tc T4 (o := 0) (by omega) (hns (w.heap.size + 1) (by omega))).trans k4
  have m4' := (Tc T4 (o := 1) (by omega) (hns (w.heap.size + 1) (by omega))).trans k4'
  have m5 := (T4.block (w.heap.size + 2) (by omega) (hns _ (by omega))).trans k5
  have H4 := Lib.hid H4
  have hO4 := Lib.hid (hO3.out.of_block (w' := W4) fun b hb' => T4.block b (World.ownsRowF.lt hO3.out b hb').2 (fun e => hO3.out.far hs (by rw [hb', e])))
  have HT4 := Lib.hid (HT3.out.trans (T4.mono fun b _ h => .inr (.inl h)))
  have hs4 := T4.size
  have f0 : W4.cell? ⟨w.heap.size + 1 + 1, 0, none⟩ = some .nilIface := by rw [cell_of_row W4 _ 0 _ _ _ m5]; rfl
  have f1 : W4.cell? ⟨w.heap.size + 1 + 1, 1, none⟩ = some (.int .i32 0) := by rw [cell_of_row W4 _ 1 _ _ _ m5]; rfl
  have z0 : W4.frozen? ⟨w.heap.size + 1 + 1, 0, none⟩ = false := frozen_of_row W4 _ 0 _ _ m5
  have z1 : W4.frozen? ⟨w.heap.size + 1 + 1, 1, none⟩ = false := frozen_of_row W4 _ 1 _ _ m5
  have hl4 : w.heap.size + 1 + 1 < W4.heap.size := by omega
  have M5 := Lib.hid m5
  clear T4 k3 k4 k4' k5 kb hT m5
  go_wp2_with fail
  have W5 : ∀ (cs : Array Value) (T : TypeId), (((W4.setCell ⟨w.heap.size + 1 + 1, 0, none⟩ (.iface 79 (ptr W4.heap.size))).setCell ⟨w.heap.size + 1 + 1, 1, none⟩ (.int .i32 l)).alloc (.cells cs T)).cell? ⟨w.heap.size + 1 + 1, 0, none⟩ = some (.iface 79 (ptr W4.heap.size)) := fun cs T => by
    go_simp
  have W6 : ∀ (cs : Array Value) (T : TypeId), (((W4.setCell ⟨w.heap.size + 1 + 1, 0, none⟩ (.iface 79 (ptr W4.heap.size))).setCell ⟨w.heap.size + 1 + 1, 1, none⟩ (.int .i32 l)).alloc (.cells cs T)).cell? ⟨w.heap.size + 1 + 1, 1, none⟩ = some (.int .i32 l) := fun cs T => by
    go_simp
  refine bodyPost_ret (v := .agg #[.iface 79 (ptr W4.heap.size), .int .i32 l]) (by simp [results, Try.results41, go_sem, W5, W6]) rfl ⟨_, t.v, rfl, ⟨_, _, rfl⟩, ?_, ?_, ?_⟩
  · have e1 : p ≠ w.heap.size + 1 + 1 := by omega
    have e2 : s ≠ w.heap.size + 1 + 1 := by omega
    exact (H4.out.of_blocks ((Below.heap_setCell _ _ _ _ e1).trans (Below.heap_setCell _ _ _ _ e1)) ((Below.heap_setCell _ _ _ _ e2).trans (Below.heap_setCell _ _ _ _ e2))).alloc _
  · have hne : ∀ b, t.v.ownBlock = some b → b ≠ w.heap.size + 1 + 1 := fun b hb e => by
      obtain ⟨cur, fz, hc⟩ := hO4.out.cells hb
      rw [e, M5.out] at hc
      cases hc
    exact (hO4.out.of_block fun b hb => (Below.heap_setCell _ _ _ _ (hne b hb)).trans (Below.heap_setCell _ _ _ _ (hne b hb))).alloc _
  · have hx : ¬ w.heap.size + 1 + 1 < w.heap.size := by omega
    have h0 : ch.Touch (fun b => b = p ∨ b = s ∨ rv.ownBlock = some b) w W4 := (ht0.mono fun _ _ h => h.elim).trans HT4.out
    exact ((h0.setCell ⟨w.heap.size + 1 + 1, 0, none⟩ (fun h => absurd h hx) _).setCell ⟨w.heap.size + 1 + 1, 1, none⟩ (fun h => absurd h hx) _).alloc _
@[go_sem] theorem as219_289 (v : Value) (w : World) : (Instr.typeAssert (.iface 215 v) 219 289 true).run Try.prog w = .ok (.tuple #[.pointer none, .bool false]) w := by kernel_rfl
@[go_sem] theorem as219_215 (v : Value) (w : World) : (Instr.typeAssert (.iface 215 v) 219 215 true).run Try.prog w = .ok (.tuple #[v, .bool true]) w := by kernel_rfl
@[go_sem] theorem neq268 (c : Array Value) (w : World) : (binOp .neq 268 (.func (.func 41) #[] c) .nilFunc).run Try.prog w = .ok (.bool true) w := by kernel_rfl
abbrev clo (bx : Nat) : Value := .func (.func 41) #[] #[ptr bx]
theorem conv43 (B : Nat) (w : World) (p s n : Nat) (mode : Int) (cur mod : Nat) (depth : Int) (rv : Value) (k : Nat) (xs : List Value) (bx bi : Nat) (l : Int) (i : Nat)
    (H : St w p s n mode cur mod depth rv) (hOwn : Own B w rv k xs) (hk : k ≤ 65536) (hn : n ≤ 65536) (hi : i < n) (hB : B ≤ w.heap.size) (hp : p < B) (hs : s < B) (hb : bx < B) (hbp : bx ≠ p) (hcb : w.cell? ⟨bx, 0, none⟩ = some (ptr p))
    (hbi : bi < B) (hi0 : w.cell? ⟨bi, 0, none⟩ = some (.int .u32 0)) (hi1 : w.cell? ⟨bi, 1, none⟩ = some (.int .u32 i)) :
    Calls Try.prog 43 #[.agg #[.iface 215 (ptr bi), .int .i32 l], clo bx] w (CloP B w p s n mode cur mod depth rv k xs l i) := by
  have HH := Lib.hid H
  have HO := Lib.hid hOwn
  have HCB := Lib.hid hcb
  have HI := Lib.hid hi
  clear H hOwn hcb hi
  go_enter Try.func43, Try.ntmps43
  go_upto_region 11 with (fail)
  have hcs : (((w.alloc (.cells #[.iface 215 (ptr bi), .int .i32 l] 221)).alloc (.cells #[.nilIface, .int .i32 0] 30)).alloc (.cells #[.int .i32 l] 28)).heap.size = w.heap.size + 3 := by simp
  have ht0 : ch.Touch (fun _ => False) w (((w.alloc (.cells #[.iface 215 (ptr bi), .int .i32 l] 221)).alloc (.cells #[.nilIface, .int .i32 0] 30)).alloc (.cells #[.int .i32 l] 28)) := (((ch.Touch.refl _ _).alloc _).alloc _).alloc _
  have hx4 : (((w.alloc (.cells #[.iface 215 (ptr bi), .int .i32 l] 221)).alloc (.cells #[.nilIface, .int .i32 0] 30)).alloc (.cells #[.int .i32 l] 28)).heap[w.heap.size + 1]? = some (.cells #[.nilIface, .int .i32 0] 30 (0, 0)) := by
    have := heap_alloc_new (w.alloc (.cells #[.iface 215 (ptr bi), .int .i32 l] 221)) (.cells #[.nilIface, .int .i32 0] 30)
    rw [Below.heap_alloc _ _ _ (by simp)]
    simpa using this
  have hx5 : (((w.alloc (.cells #[.iface 215 (ptr bi), .int .i32 l] 221)).alloc (.cells #[.nilIface, .int .i32 0] 30)).alloc (.cells #[.int .i32 l] 28)).cell? ⟨w.heap.size + 1 + 1, 0, none⟩ = some (.int .i32 l) := by go_simp
  generalize (((w.alloc (.cells #[.iface 215 (ptr bi), .int .i32 l] 221)).alloc (.cells #[.nilIface, .int .i32 0] 30)).alloc (.cells #[.int .i32 l] 28)) = w1 at *
  have H1 := Lib.hid (HH.out.touch ht0 id id)
  have O1 := Lib.hid (HO.out.of_block (w' := w1) fun b hb => ht0.block b (World.ownsRowF.lt HO.out b hb).2 id)
  have B1 := Lib.hid ((Tc ht0 (by omega) id).trans HCB.out)
  have j0 := (Tc ht0 (by omega) id).trans hi0
  have j1 := (Tc ht0 (by omega) id).trans hi1
  have HT0 := Lib.hid ht0
  have X4 := Lib.hid hx4
  have hT : ∀ b, w.heap.size ≤ b → ¬ (b = p ∨ b = s ∨ rv.ownBlock = some b) := by
    rintro b hb1 (h | h | h)
    · omega
    · omega
    · exact HO.out.past hb1 h
  clear hi0 hi1 ht0 hx4
  go_region_with (go_at_call 41; refine (clo41 B w1.drew p s n mode cur mod depth rv k xs bx l i H1.out.drew O1.out hk hn HI.out (by rw [heap_drew]; omega) hp hs hb hbp B1.out).mono ?_; rintro _ W2 ⟨d, rv', rfl, ⟨T', b', rfl⟩, H2, O2, T2⟩; have m4 := (T2.block (w.heap.size + 1) (by rw [heap_drew]; omega) (hT _ (by omega))).trans X4.out; have f0 : W2.cell? ⟨w.heap.size + 1, 0, none⟩ = some .nilIface := by { rw [cell_of_row W2 _ 0 _ _ _ m4]; rfl }; have f1 : W2.cell? ⟨w.heap.size + 1, 1, none⟩ = some (.int .i32 0) := by { rw [cell_of_row W2 _ 1 _ _ _ m4]; rfl }; have z0 : W2.frozen? ⟨w.heap.size + 1, 0, none⟩ = false := frozen_of_row W2 _ 0 _ _ m4; have z1 : W2.frozen? ⟨w.heap.size + 1, 1, none⟩ = false := frozen_of_row W2 _ 1 _ _ m4)
  all_goals
    have W5 : ((W2.setCell ⟨w.heap.size + 1, 0, none⟩ (.iface T' (ptr b'))).setCell ⟨w.heap.size + 1, 1, none⟩ (.int .i32 l)).cell? ⟨w.heap.size + 1, 0, none⟩ = some (.iface T' (ptr b')) := by go_simp
    have W6 : ((W2.setCell ⟨w.heap.size + 1, 0, none⟩ (.iface T' (ptr b'))).setCell ⟨w.heap.size + 1, 1, none⟩ (.int .i32 l)).cell? ⟨w.heap.size + 1, 1, none⟩ = some (.int .i32 l) := by go_simp
    have e1 : p ≠ w.heap.size + 1 := by omega
    have e2 : s ≠ w.heap.size + 1 := by omega
    have H5 := (H2.of_blocks (w' := (W2.setCell ⟨w.heap.size + 1, 0, none⟩ (.iface T' (ptr b'))).setCell ⟨w.heap.size + 1, 1, none⟩ (.int .i32 l)) ((Below.heap_setCell _ _ _ _ e1).trans (Below.heap_setCell _ _ _ _ e1)) ((Below.heap_setCell _ _ _ _ e2).trans (Below.heap_setCell _ _ _ _ e2)))
    have hne : ∀ b, rv'.ownBlock = some b → b ≠ w.heap.size + 1 := fun b hb e => by
      obtain ⟨cur, fz, hc⟩ := O2.cells hb
      rw [e, m4] at hc
      cases hc
    have O5 := O2.of_block (w' := (W2.setCell ⟨w.heap.size + 1, 0, none⟩ (.iface T' (ptr b'))).setCell ⟨w.heap.size + 1, 1, none⟩ (.int .i32 l)) fun b hb => (Below.heap_setCell _ _ _ _ (hne b hb)).trans (Below.heap_setCell _ _ _ _ (hne b hb))
    have hx : ¬ w.heap.size + 1 < w.heap.size := by omega
    have h0 : ch.Touch (fun b => b = p ∨ b = s ∨ rv.ownBlock = some b) w W2 := (HT0.out.mono fun _ _ h => h.elim).trans ((ch.Touch.refl _ _).drew.trans T2)
    have T5 := (h0.setCell ⟨w.heap.size + 1, 0, none⟩ (fun h => absurd h hx) (.iface T' (ptr b'))).setCell ⟨w.heap.size + 1, 1, none⟩ (fun h => absurd h hx) (.int .i32 l)
    have HE := Lib.hid (And.intro H5 (And.intro O5 T5))
    clear f0 f1 z0 z1 m4 hne H5 O5 T5 h0 H2 O2 T2
    go_wp2_with fail
    refine bodyPost_ret (v := .agg #[.iface T' (ptr b'), .int .i32 l]) (by simp [results, Try.results43, go_sem, W5, W6]) rfl ⟨_, rv', rfl, ⟨_, _, rfl⟩, HE.out.1, HE.out.2.1, HE.out.2.2⟩
end Go.Proofs.Ythhlioepgfjknaa.rl
