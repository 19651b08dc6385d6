/-
  Relocated declarations: the set-up.
-/
import Derived.Test.YthhlioepgfjknaaRf
namespace Go.Proofs.Ythhlioepgfjknaa.rl
open Go.ChangeShapes Go.WideShapes Go.ChangeAt Go.RowKit Go.Deep Go.Proofs.Ythhlioepgfjknaa.ch
set_option linter.unusedVariables false
set_option linter.unusedSimpArgs false
set_option maxRecDepth 100000
set_option maxHeartbeats 8000000
def SetP (w : World) (mode : Int) (depth : Int) (n : Nat) (R L : Nat → Nat) (has : Nat → Bool) (nc : Nat) (f : Nat → Bool) (e : Ending) (w' : World) : Prop :=
  ∃ p s d c mod bi b, e = .returned (.tuple #[ptr p, .slice (some ⟨d, 0, none⟩) n n, .bool b]) ∧ St w' p s n mode c mod depth (.slice none 0 0) ∧ Sc w' mod f nc c ∧ De w' d n bi R L has ∧ d ≠ s ∧ d ≠ p ∧ (∀ j, j < n → bi j ≠ p ∧ bi j ≠ s) ∧
    w.heap.size ≤ p ∧ w.heap.size ≤ s ∧ Below w.heap.size w w'
theorem Sc.next {w w' : World} {m : Nat} {f : Nat → Bool} {k c : Nat} {cs : Array Value} (h : Sc w m f k c) (hb : Below w.heap.size w w') (hn : w'.heap[w.heap.size]? = some (.cells cs 211 (0, 0))) (h15 : cs[15]? = some (.int .u8 (if f k then 8 else 0))) (h1 : cs[1]? = some (ptr c)) : Sc w' m f (k + 1) w.heap.size := by
  have hlt := h.lt
  have hge := h.ge
  exact ⟨by omega, by rw [cell_of_row w' _ 15 _ _ _ hn]; exact h15, ⟨_, hn⟩, c, hlt, by rw [cell_of_row w' _ 1 _ _ _ hn]; exact h1, h.keep fun b hb' => hb.block b (by omega)⟩
theorem info223 : (Try.prog.info? 223).map (fun i => (i.zero.map (·.cells), i.size, i.bytes)) = some (some #[.nilIface, .int .i32 0, .nilIface, .int .i32 0], 4, 48) := by kernel_rfl
def decz (n : Nat) : Array Value := madeCells #[.nilIface, .int .i32 0, .nilIface, .int .i32 0] (n * 4)
theorem decz_size (n : Nat) : (decz n).size = n * 4 := by simp [decz, size_madeCells]
theorem decz_get (n i : Nat) (hi : i < n) : (decz n)[i * 4]? = some .nilIface ∧ (decz n)[i * 4 + 1]? = some (.int .i32 0) ∧ (decz n)[i * 4 + 2]? = some .nilIface ∧ (decz n)[i * 4 + 3]? = some (.int .i32 0) := by
  have h0 : i * 4 < n * 4 := by omega
  have h1 : i * 4 + 1 < n * 4 := by omega
  have h2 : i * 4 + 2 < n * 4 := by omega
  have h3 : i * 4 + 3 < n * 4 := by omega
  refine ⟨?_, ?_, ?_, ?_⟩
  · simp [decz, madeCells, h0, Nat.mul_mod_left]
  · simp [decz, madeCells, h1, Nat.add_mod, Nat.mul_mod_left]
  · simp [decz, madeCells, h2, Nat.add_mod, Nat.mul_mod_left]
  · simp [decz, madeCells, h3, Nat.add_mod, Nat.mul_mod_left]
theorem made61 (n : Nat) (hn : n ≤ 65536) (w : World) : (Instr.makeSlice 61 (.int .i64 n) (.int .i64 n)).run Try.prog w = .ok (.slice (some ⟨w.heap.size, 0, none⟩) n n) (w.alloc (.cells (decz n) 223)) := by
  obtain ⟨i, hi, hz⟩ := Option.map_eq_some_iff.1 info223
  simp only [Prod.mk.injEq] at hz
  obtain ⟨h1, h2, h3⟩ := hz
  obtain ⟨z, hz, hzc⟩ := Option.map_eq_some_iff.1 h1
  have hr := run_make (P := Try.prog) w 61 223 i z Try.underlying61 hi hz .i64 .i64 n n (by omega) (Int.le_refl _) (by rw [h3]; omega) (by omega)
  simp only [Int.toNat_natCast, hzc, h2] at hr
  exact hr
/-- The row of declarations, i of them filled. -/
structure Dn (w : World) (B d n : Nat) (bi R L : Nat → Nat) (has : Nat → Bool) (i : Nat) : Prop where
  row : ∃ G, RowG w d 223 (n * 4) G ∧ (∀ j, i ≤ j → j < n → G (j * 4) = .nilIface ∧ G (j * 4 + 1) = .int .i32 0 ∧ G (j * 4 + 2) = .nilIface ∧ G (j * 4 + 3) = .int .i32 0) ∧
    (∀ j, j < i → G (j * 4) = .iface 215 (ptr (bi j)) ∧ G (j * 4 + 1) = .int .i32 (L j) ∧ (if has j = true then NN (G (j * 4 + 2)) else G (j * 4 + 2) = .nilIface) ∧ ∃ x : Int, G (j * 4 + 3) = .int .i32 x)
  box : ∀ j, j < i → B ≤ bi j ∧ w.cell? ⟨bi j, 0, none⟩ = some (.int .u32 0) ∧ w.cell? ⟨bi j, 1, none⟩ = some (.int .u32 (R j))
theorem Dn.start (w : World) (B n : Nat) (R L : Nat → Nat) (has : Nat → Bool) : Dn (w.alloc (.cells (decz n) 223)) B w.heap.size n (fun _ => 0) R L has 0 := by
  refine ⟨⟨fun q => ((decz n)[q]?).getD undef, ⟨_, heap_alloc_new _ _, decz_size n, fun q hq => gd (by rw [decz_size]; omega)⟩, fun j _ hj => ?_, fun j hj => by omega⟩, fun j hj => by omega⟩
  obtain ⟨h0, h1, h2, h3⟩ := decz_get n j hj
  exact ⟨by show Option.getD _ _ = _; rw [h0]; rfl, by show Option.getD _ _ = _; rw [h1]; rfl, by show Option.getD _ _ = _; rw [h2]; rfl, by show Option.getD _ _ = _; rw [h3]; rfl⟩
theorem Dn.de {w : World} {B d n : Nat} {bi R L : Nat → Nat} {has : Nat → Bool} (h : Dn w B d n bi R L has n) : De w d n bi R L has := by
  obtain ⟨⟨G, hG, _, h2⟩, h3⟩ := h
  refine ⟨fun j hj => ?_, fun j hj => (h3 j hj).2⟩
  obtain ⟨a0, a1, a2, x, a3⟩ := h2 j hj
  exact ⟨by rw [hG.cell (by omega), a0], by rw [hG.cell (by omega), a1], _, x, hG.cell (by omega), a2, by rw [hG.cell (by omega), a3]⟩
/-- The cells of the element to be filled. -/
theorem Dn.here {w : World} {B d n : Nat} {bi R L : Nat → Nat} {has : Nat → Bool} {i : Nat} (h : Dn w B d n bi R L has i) (hi : i < n) :
    w.cell? ⟨d, i * 4, none⟩ = some .nilIface ∧ w.cell? ⟨d, i * 4 + 1, none⟩ = some (.int .i32 0) ∧ w.cell? ⟨d, i * 4 + 2, none⟩ = some .nilIface ∧ w.cell? ⟨d, i * 4 + 3, none⟩ = some (.int .i32 0) ∧ ∀ o, w.frozen? ⟨d, o, none⟩ = false := by
  obtain ⟨⟨G, hG, h1, _⟩, _⟩ := h
  obtain ⟨a0, a1, a2, a3⟩ := h1 i (Nat.le_refl _) hi
  exact ⟨by rw [hG.cell (by omega), a0], by rw [hG.cell (by omega), a1], by rw [hG.cell (by omega), a2], by rw [hG.cell (by omega), a3], hG.frozen⟩
theorem Dn.lt {w : World} {B d n : Nat} {bi R L : Nat → Nat} {has : Nat → Bool} {i : Nat} (h : Dn w B d n bi R L has i) : d < w.heap.size := by
  obtain ⟨⟨G, hG, _⟩, _⟩ := h
  exact hG.lt
/-- Element i without a value. -/
theorem Dn.no {w W : World} {B d n : Nat} {bi R L : Nat → Nat} {has : Nat → Bool} {i : Nat} (h : Dn w B d n bi R L has i) (hi : i < n) (b : Nat) (hw : W.heap[d]? = w.heap[d]?) (hold : ∀ k, k < w.heap.size → k ≠ d → W.heap[k]? = w.heap[k]?) (hb : B ≤ b) (hbd : b ≠ d) (hdB : d < B)
    (h0 : W.cell? ⟨b, 0, none⟩ = some (.int .u32 0)) (h1 : W.cell? ⟨b, 1, none⟩ = some (.int .u32 (R i))) (hh : has i = false) :
    Dn ((W.setCell ⟨d, i * 4, none⟩ (.iface 215 (ptr b))).setCell ⟨d, i * 4 + 1, none⟩ (.int .i32 (L i))) B d n (fun q => if q = i then b else bi q) R L has (i + 1) := by
  obtain ⟨⟨G, hG, g1, g2⟩, g3⟩ := h
  have hne : ∀ k, k ≠ d → ((W.setCell ⟨d, i * 4, none⟩ (.iface 215 (ptr b))).setCell ⟨d, i * 4 + 1, none⟩ (.int .i32 (L i))).heap[k]? = W.heap[k]? := fun k hk => (Below.heap_setCell _ _ _ _ (by exact hk)).trans (Below.heap_setCell _ _ _ _ (by exact hk))
  refine ⟨⟨_, ((hG.of_block hw).set (i * 4) (.iface 215 (ptr b))).set (i * 4 + 1) (.int .i32 (L i)), fun j h1' h2' => ?_, fun j hj => ?_⟩, fun j hj => ?_⟩
  · have := g1 j (by omega) h2'
    simp only [show j * 4 ≠ i * 4 by omega, show j * 4 ≠ i * 4 + 1 by omega, show j * 4 + 1 ≠ i * 4 by omega, show j * 4 + 1 ≠ i * 4 + 1 by omega, show j * 4 + 2 ≠ i * 4 by omega, show j * 4 + 2 ≠ i * 4 + 1 by omega, show j * 4 + 3 ≠ i * 4 by omega, show j * 4 + 3 ≠ i * 4 + 1 by omega, if_false]
    exact this
  · by_cases e : j = i
    · subst e
      obtain ⟨a0, a1, a2, a3⟩ := g1 j (Nat.le_refl _) hi
      simp only [show j * 4 ≠ j * 4 + 1 by omega, show j * 4 + 2 ≠ j * 4 by omega, show j * 4 + 2 ≠ j * 4 + 1 by omega, show j * 4 + 3 ≠ j * 4 by omega, show j * 4 + 3 ≠ j * 4 + 1 by omega, if_false, if_true, hh]
      exact ⟨trivial, trivial, by simpa using a2, 0, a3⟩
    · have := g2 j (by omega)
      simp only [show j * 4 ≠ i * 4 by omega, show j * 4 ≠ i * 4 + 1 by omega, show j * 4 + 1 ≠ i * 4 by omega, show j * 4 + 1 ≠ i * 4 + 1 by omega, show j * 4 + 2 ≠ i * 4 by omega, show j * 4 + 2 ≠ i * 4 + 1 by omega, show j * 4 + 3 ≠ i * 4 by omega, show j * 4 + 3 ≠ i * 4 + 1 by omega, if_false, if_neg e]
      exact this
  · by_cases e : j = i
    · subst e
      simp only [if_true]
      exact ⟨hb, (World.cell?_of_block (a := ⟨b, 0, none⟩) (hne b hbd)).trans h0, (World.cell?_of_block (a := ⟨b, 1, none⟩) (hne b hbd)).trans h1⟩
    · obtain ⟨b1, b2, b3⟩ := g3 j (by omega)
      have hk := block_lt_of_cell b2
      have hkk := (hne (bi j) (by omega)).trans (hold (bi j) hk (by omega))
      simp only [if_neg e]
      exact ⟨b1, (World.cell?_of_block (a := ⟨bi j, 0, none⟩) hkk).trans b2, (World.cell?_of_block (a := ⟨bi j, 1, none⟩) hkk).trans b3⟩
/-- Element i with a value. -/
theorem Dn.yes {w W : World} {B d n : Nat} {bi R L : Nat → Nat} {has : Nat → Bool} {i : Nat} (h : Dn w B d n bi R L has i) (hi : i < n) (b : Nat) (hw : W.heap[d]? = w.heap[d]?) (hold : ∀ k, k < w.heap.size → k ≠ d → W.heap[k]? = w.heap[k]?) (hb : B ≤ b) (hbd : b ≠ d) (hdB : d < B)
    (h0 : W.cell? ⟨b, 0, none⟩ = some (.int .u32 0)) (h1 : W.cell? ⟨b, 1, none⟩ = some (.int .u32 (R i))) (hh : has i = true) (v : Value) (hv : NN v) (x : Int) :
    Dn ((((W.setCell ⟨d, i * 4, none⟩ (.iface 215 (ptr b))).setCell ⟨d, i * 4 + 1, none⟩ (.int .i32 (L i))).setCell ⟨d, i * 4 + 2, none⟩ v).setCell ⟨d, i * 4 + 3, none⟩ (.int .i32 x)) B d n (fun q => if q = i then b else bi q) R L has (i + 1) := by
  obtain ⟨⟨G, hG, g1, g2⟩, g3⟩ := h
  have hne : ∀ k, k ≠ d → ((((W.setCell ⟨d, i * 4, none⟩ (.iface 215 (ptr b))).setCell ⟨d, i * 4 + 1, none⟩ (.int .i32 (L i))).setCell ⟨d, i * 4 + 2, none⟩ v).setCell ⟨d, i * 4 + 3, none⟩ (.int .i32 x)).heap[k]? = W.heap[k]? := fun k hk => (Below.heap_setCell _ _ _ _ (by exact hk)).trans ((Below.heap_setCell _ _ _ _ (by exact hk)).trans ((Below.heap_setCell _ _ _ _ (by exact hk)).trans (Below.heap_setCell _ _ _ _ (by exact hk))))
  refine ⟨⟨_, ((((hG.of_block hw).set (i * 4) (.iface 215 (ptr b))).set (i * 4 + 1) (.int .i32 (L i))).set (i * 4 + 2) v).set (i * 4 + 3) (.int .i32 x), fun j h1' h2' => ?_, fun j hj => ?_⟩, fun j hj => ?_⟩
  · have := g1 j (by omega) h2'
    simp only [show j * 4 ≠ i * 4 by omega, show j * 4 ≠ i * 4 + 1 by omega, show j * 4 ≠ i * 4 + 2 by omega, show j * 4 ≠ i * 4 + 3 by omega, show j * 4 + 1 ≠ i * 4 by omega, show j * 4 + 1 ≠ i * 4 + 1 by omega, show j * 4 + 1 ≠ i * 4 + 2 by omega, show j * 4 + 1 ≠ i * 4 + 3 by omega, show j * 4 + 2 ≠ i * 4 by omega, show j * 4 + 2 ≠ i * 4 + 1 by omega, show j * 4 + 2 ≠ i * 4 + 2 by omega, show j * 4 + 2 ≠ i * 4 + 3 by omega, show j * 4 + 3 ≠ i * 4 by omega, show j * 4 + 3 ≠ i * 4 + 1 by omega, show j * 4 + 3 ≠ i * 4 + 2 by omega, show j * 4 + 3 ≠ i * 4 + 3 by omega, if_false]
    exact this
  · by_cases e : j = i
    · subst e
      simp only [show j * 4 ≠ j * 4 + 1 by omega, show j * 4 ≠ j * 4 + 2 by omega, show j * 4 ≠ j * 4 + 3 by omega, show j * 4 + 1 ≠ j * 4 + 2 by omega, show j * 4 + 1 ≠ j * 4 + 3 by omega, show j * 4 + 2 ≠ j * 4 + 3 by omega, if_false, if_true, hh]
      exact ⟨trivial, trivial, hv, x, rfl⟩
    · have := g2 j (by omega)
      simp only [show j * 4 ≠ i * 4 by omega, show j * 4 ≠ i * 4 + 1 by omega, show j * 4 ≠ i * 4 + 2 by omega, show j * 4 ≠ i * 4 + 3 by omega, show j * 4 + 1 ≠ i * 4 by omega, show j * 4 + 1 ≠ i * 4 + 1 by omega, show j * 4 + 1 ≠ i * 4 + 2 by omega, show j * 4 + 1 ≠ i * 4 + 3 by omega, show j * 4 + 2 ≠ i * 4 by omega, show j * 4 + 2 ≠ i * 4 + 1 by omega, show j * 4 + 2 ≠ i * 4 + 2 by omega, show j * 4 + 2 ≠ i * 4 + 3 by omega, show j * 4 + 3 ≠ i * 4 by omega, show j * 4 + 3 ≠ i * 4 + 1 by omega, show j * 4 + 3 ≠ i * 4 + 2 by omega, show j * 4 + 3 ≠ i * 4 + 3 by omega, if_false, if_neg e]
      exact this
  · by_cases e : j = i
    · subst e
      simp only [if_true]
      exact ⟨hb, (World.cell?_of_block (a := ⟨b, 0, none⟩) (hne b hbd)).trans h0, (World.cell?_of_block (a := ⟨b, 1, none⟩) (hne b hbd)).trans h1⟩
    · obtain ⟨b1, b2, b3⟩ := g3 j (by omega)
      have hk := block_lt_of_cell b2
      have hkk := (hne (bi j) (by omega)).trans (hold (bi j) hk (by omega))
      simp only [if_neg e]
      exact ⟨b1, (World.cell?_of_block (a := ⟨bi j, 0, none⟩) hkk).trans b2, (World.cell?_of_block (a := ⟨bi j, 1, none⟩) hkk).trans b3⟩
theorem mid {wx : World} {R : Nat → Nat} {k : Nat} : let V := (((wx.alloc (.cells #[.int .u32 0, .int .u32 (R k)] 74)).alloc (.cells #[.int .i32 k] 28)).alloc (.cells #[.int .u32 0, .int .u32 (R k)] 217))
    V.cell? ⟨wx.heap.size + 1 + 1, 0, none⟩ = some (.int .u32 0) ∧ V.cell? ⟨wx.heap.size + 1 + 1, 1, none⟩ = some (.int .u32 (R k)) ∧ ∀ b, b < wx.heap.size → V.heap[b]? = wx.heap[b]? := by
  have hn := heap_alloc_new ((wx.alloc (.cells #[.int .u32 0, .int .u32 (R k)] 74)).alloc (.cells #[.int .i32 k] 28)) (.cells #[.int .u32 0, .int .u32 (R k)] 217)
  rw [show ((wx.alloc (.cells #[.int .u32 0, .int .u32 (R k)] 74)).alloc (.cells #[.int .i32 k] 28)).heap.size = wx.heap.size + 1 + 1 by simp] at hn
  exact ⟨by rw [cell_of_row _ _ 0 _ _ _ hn]; rfl, by rw [cell_of_row _ _ 1 _ _ _ hn]; rfl, fun b hb => (Below.heap_alloc _ _ _ (by simp; omega)).trans ((Below.heap_alloc _ _ _ (by simp; omega)).trans (Below.heap_alloc _ _ _ hb))⟩
theorem past {w : World} {b x : Nat} {v : Value} (o : Obj) (h : b < w.heap.size) : (w.alloc o).setCell ⟨b, x, none⟩ v = (w.setCell ⟨b, x, none⟩ v).alloc o := World.setCell_alloc_past _ _ _ _ h
theorem swapNo {wx : World} {d : Nat} (hd : d < wx.heap.size) (o1 o2 o3 : Obj) (x y : Nat) (v u : Value) : (((wx.alloc o1).alloc o2).alloc o3 |>.setCell ⟨d, x, none⟩ v |>.setCell ⟨d, y, none⟩ u) = ((((wx.setCell ⟨d, x, none⟩ v).setCell ⟨d, y, none⟩ u).alloc o1).alloc o2).alloc o3 := by
  rw [past o3 (by simp; omega), past o2 (by simp; omega), past o1 (by exact hd), past o3 (by simp; omega), past o2 (by simp; omega), past o1 (by simpa using hd)]
theorem dnNo {wx : World} {d n : Nat} {bi R : Nat → Nat} {has : Nat → Bool} {k B : Nat} (h : Dn wx B d n bi R (fun i => i) has k) (hk : k < n) (hd : d < wx.heap.size) (hB : d + 1 = B) (hh : has k = false) :
    Dn (((((wx.setCell ⟨d, k * 4, none⟩ (.iface 215 (ptr (wx.heap.size + 1 + 1)))).setCell ⟨d, k * 4 + 1, none⟩ (.int .i32 k)).alloc (.cells #[.int .u32 0, .int .u32 (R k)] 74)).alloc (.cells #[.int .i32 k] 28)).alloc (.cells #[.int .u32 0, .int .u32 (R k)] 217)) B d n (fun q => if q = k then wx.heap.size + 1 + 1 else bi q) R (fun i => i) has (k + 1) := by
  obtain ⟨m0, m1, m2⟩ := mid (wx := wx) (R := R) (k := k)
  have := h.no (W := (((wx.alloc (.cells #[.int .u32 0, .int .u32 (R k)] 74)).alloc (.cells #[.int .i32 k] 28)).alloc (.cells #[.int .u32 0, .int .u32 (R k)] 217))) hk (wx.heap.size + 1 + 1) (m2 d hd) (fun b hb _ => m2 b hb) (by omega) (by omega) (by omega) m0 m1 hh
  rw [swapNo hd] at this
  exact this
theorem thNo {w2 wx : World} {d k : Nat} {v u : Value} {o1 o2 o3 : Obj} (h : ch.Touch (fun b => b = d) w2 wx) : ch.Touch (fun b => b = d) w2 (((((wx.setCell ⟨d, k * 4, none⟩ v).setCell ⟨d, k * 4 + 1, none⟩ u).alloc o1).alloc o2).alloc o3) :=
  ((((h.setCell ⟨d, k * 4, none⟩ (fun _ => rfl) _).setCell ⟨d, k * 4 + 1, none⟩ (fun _ => rfl) _).alloc _).alloc _).alloc _
theorem mid4 {wx : World} {R : Nat → Nat} {k : Nat} (o4 : Obj) : let V := ((((wx.alloc (.cells #[.int .u32 0, .int .u32 (R k)] 74)).alloc (.cells #[.int .i32 k] 28)).alloc (.cells #[.int .u32 0, .int .u32 (R k)] 217)).alloc o4)
    V.cell? ⟨wx.heap.size + 1 + 1, 0, none⟩ = some (.int .u32 0) ∧ V.cell? ⟨wx.heap.size + 1 + 1, 1, none⟩ = some (.int .u32 (R k)) ∧ ∀ b, b < wx.heap.size → V.heap[b]? = wx.heap[b]? := by
  obtain ⟨m0, m1, m2⟩ := mid (wx := wx) (R := R) (k := k)
  exact ⟨by rw [World.cell?_alloc_lt _ _ _ (by simp)]; exact m0, by rw [World.cell?_alloc_lt _ _ _ (by simp)]; exact m1, fun b hb => (Below.heap_alloc _ _ _ (by simp; omega)).trans (m2 b hb)⟩
theorem swap4 {wx : World} {d : Nat} (hd : d < wx.heap.size) (o1 o2 o3 o4 : Obj) (x : Nat) (v : Value) : ((((wx.alloc o1).alloc o2).alloc o3).alloc o4).setCell ⟨d, x, none⟩ v = ((((wx.setCell ⟨d, x, none⟩ v).alloc o1).alloc o2).alloc o3).alloc o4 := by
  rw [past o4 (by simp; omega), past o3 (by simp; omega), past o2 (by simp; omega), past o1 hd]
theorem dnYes {wx : World} {d n : Nat} {bi R : Nat → Nat} {has : Nat → Bool} {k B : Nat} (h : Dn wx B d n bi R (fun i => i) has k) (hk : k < n) (hd : d < wx.heap.size) (hB : d + 1 = B) (hh : has k = true) (o4 : Obj) (y : Nat) :
    Dn ((((((((wx.setCell ⟨d, k * 4, none⟩ (.iface 215 (ptr (wx.heap.size + 1 + 1)))).setCell ⟨d, k * 4 + 1, none⟩ (.int .i32 k)).setCell ⟨d, k * 4 + 2, none⟩ (.iface 42 (ptr y))).setCell ⟨d, k * 4 + 2 + 1, none⟩ (.int .i32 k)).alloc (.cells #[.int .u32 0, .int .u32 (R k)] 74)).alloc (.cells #[.int .i32 k] 28)).alloc (.cells #[.int .u32 0, .int .u32 (R k)] 217)).alloc o4)
      B d n (fun q => if q = k then wx.heap.size + 1 + 1 else bi q) R (fun i => i) has (k + 1) := by
  obtain ⟨m0, m1, m2⟩ := mid4 (wx := wx) (R := R) (k := k) o4
  have := h.yes (W := ((((wx.alloc (.cells #[.int .u32 0, .int .u32 (R k)] 74)).alloc (.cells #[.int .i32 k] 28)).alloc (.cells #[.int .u32 0, .int .u32 (R k)] 217)).alloc o4)) hk (wx.heap.size + 1 + 1) (m2 d hd) (fun b hb _ => m2 b hb) (by omega) (by omega) (by omega) m0 m1 hh (.iface 42 (ptr y)) ⟨_, _, rfl⟩ (k : Int)
  rw [swap4 hd, swap4 (by simpa using hd), swap4 (by simpa using hd), swap4 (by simpa using hd)] at this
  exact this
theorem thYes {w2 wx : World} {d k : Nat} {v u v2 u2 : Value} {o1 o2 o3 o4 : Obj} (h : ch.Touch (fun b => b = d) w2 wx) : ch.Touch (fun b => b = d) w2 ((((((((wx.setCell ⟨d, k * 4, none⟩ v).setCell ⟨d, k * 4 + 1, none⟩ u).setCell ⟨d, k * 4 + 2, none⟩ v2).setCell ⟨d, k * 4 + 2 + 1, none⟩ u2).alloc o1).alloc o2).alloc o3).alloc o4) :=
  (((((((h.setCell ⟨d, k * 4, none⟩ (fun _ => rfl) _).setCell ⟨d, k * 4 + 1, none⟩ (fun _ => rfl) _).setCell ⟨d, k * 4 + 2, none⟩ (fun _ => rfl) _).setCell ⟨d, k * 4 + 2 + 1, none⟩ (fun _ => rfl) _).alloc _).alloc _).alloc _).alloc _
theorem set26 (w : World) (mc : Nat) (depth : Int) (ca ra ha : Option Addr) (nc n nh cc rc hc : Nat) (f h : Nat → Bool) (Z : Nat → Nat) (hmc : mc < 256) (hnc : nc ≤ 65536) (hn : n ≤ 65536) (hnh : nh ≤ 65536)
    (hC : Row w ca nc fun i => .bool (f i)) (hR : Row w ra n fun i => .int .u16 (Z i)) (hH : Row w ha nh fun i => .bool (h i)) (hZ : ∀ i, Z i < 65536) (R : Nat → Nat) (hRR : ∀ i, R i = Z i % n) (has : Nat → Bool) (hhas : ∀ i, has i = (decide (i < nh) && h i)) :
    Calls Try.prog 26 #[.int .u8 mc, .int .i64 depth, .slice ca nc cc, .slice ra n rc, .slice ha nh hc, .slice none 0 0] w (SetP w ((mc % 3 : Nat) : Int) depth n R (fun i => i) has nc f) := by
  have HC := Lib.hid hC
  have HR := Lib.hid hR
  have HH := Lib.hid hH
  have HZ := Lib.hid hZ
  have HRR := Lib.hid hRR
  have HHS := Lib.hid hhas
  clear hC hR hH hZ hRR hhas
  go_enter Try.func26, Try.ntmps26
  go_wp2_with fail
  have hA := heap_alloc_new w (.cells #[.pointer none, .pointer none, .slice none 0 0, .map none, .slice none 0 0, .slice none 0 0, .int .i32 0, .int .i32 0, .int .u32 0, .int .u32 0, .bool false, .bool false, .bool false, .bool false, .int .u8 0, .int .u8 6] 211)
  have HB0 := Lib.hid ((Below.refl w.heap.size w).alloc (Nat.le_refl _) (.cells #[.pointer none, .pointer none, .slice none 0 0, .map none, .slice none 0 0, .slice none 0 0, .int .i32 0, .int .i32 0, .int .u32 0, .int .u32 0, .bool false, .bool false, .bool false, .bool false, .int .u8 0, .int .u8 6] 211))
  have HS0 : Hid (Sc (w.alloc (.cells #[.pointer none, .pointer none, .slice none 0 0, .map none, .slice none 0 0, .slice none 0 0, .int .i32 0, .int .i32 0, .int .u32 0, .int .u32 0, .bool false, .bool false, .bool false, .bool false, .int .u8 0, .int .u8 6] 211)) w.heap.size f 0 w.heap.size) := Lib.hid ⟨rfl, by rw [cell_of_row _ _ 15 _ _ _ hA]; rfl, ⟨_, hA⟩⟩
  clear hA
  generalize w.alloc (.cells #[.pointer none, .pointer none, .slice none 0 0, .map none, .slice none 0 0, .slice none 0 0, .int .i32 0, .int .i32 0, .int .u32 0, .int .u32 0, .bool false, .bool false, .bool false, .bool false, .int .u8 0, .int .u8 6] 211) = w0 at *
  go_loopw [16, 17, 18] (fun v16 v17 v18 wr => ∃ (i c : Nat) (b : Bool), v16 = ptr c ∧ v17 = .bool b ∧ v18 = .int .i64 i ∧ i ≤ nc ∧ Sc wr w.heap.size f i c ∧ Below w.heap.size w wr) (fun _ _ v _ => nc - (intOf v).toNat)
  case atStart => exact ⟨0, _, _, rfl, rfl, rfl, by omega, HS0.out, HB0.out⟩
  case round =>
    obtain ⟨i, c, b, rfl, rfl, rfl, hi, hsc, hbel⟩ := hrel
    rename World => wr
    have HSC := Lib.hid hsc
    have HBL := Lib.hid hbel
    clear hsc hbel HS0 HB0
    by_cases hlt : i < nc
    · obtain ⟨g, off, rfl, hcl⟩ := HC.out (by omega)
      have c1 : w.cell? ⟨g, off + i, none⟩ = some (.bool (f i)) := hcl i hlt
      replace c1 := (HBL.out.cell (p := ⟨g, off + i, none⟩) (block_lt_of_cell c1)).trans c1
      clear hcl
      cases hf : f i with
      | true =>
        rw [hf] at c1
        have HF := Lib.hid hf
        clear hf
        go_wp2_with fail
        go_roundw
        case rel => exact ⟨i + 1, wr.heap.size, true, rfl, rfl, by go_num, by omega, HSC.out.next ((Below.refl _ _).alloc (Nat.le_refl _) _) (heap_alloc_new _ _) (by rw [HF.out]; rfl) rfl, HBL.out.alloc HBL.out.size _⟩
        case measure => simp [intOf]; omega
      | false =>
        rw [hf] at c1
        have HF := Lib.hid hf
        clear hf
        go_wp2_with fail
        go_roundw
        case rel => exact ⟨i + 1, wr.heap.size, b, rfl, rfl, by go_num, by omega, HSC.out.next ((Below.refl _ _).alloc (Nat.le_refl _) _) (heap_alloc_new _ _) (by rw [HF.out]; rfl) rfl, HBL.out.alloc HBL.out.size _⟩
        case measure => simp [intOf]; omega
    · obtain rfl : i = nc := by omega
      have hmk := made61 n hn
      go_upto_region 14 with (first
        | (go_at_call 37; refine (mode37 _ mc hmc).mono ?_; rintro _ _ ⟨rfl, rfl⟩)
        | (go_at_call 36; refine (new36 _ _ c w.heap.size depth n hn).mono ?_; rintro _ W ⟨p, s, rfl, hp, hs, hst, hb⟩; have HST := Lib.hid hst; have HBW := Lib.hid hb; have hWs := hb.size; clear hst hb))
      go_wp2_with fail
      clear hmk
      have hrs := HBL.out.size
      have HBW1 := Lib.hid (HBL.out.trans (HBW.out.mono hrs))
      have HSCW := Lib.hid (HSC.out.keep (w' := W) fun b hb => HBW.out.block b (by have := HSC.out.lt; omega))
      have hcl := HSC.out.lt
      have hstl := HST.out.lt
      have HD0 := Lib.hid (Dn.start W (W.heap.size + 1) n R (fun i => i) has)
      have HT0 : Hid (ch.Touch (fun b => b = W.heap.size) (W.alloc (.cells (decz n) 223)) (W.alloc (.cells (decz n) 223))) := Lib.hid (ch.Touch.refl _ _)
      have HA0 := Lib.hid ((ch.Touch.refl (fun _ => False) W).alloc (.cells (decz n) 223))
      have hz2 : (W.alloc (.cells (decz n) 223)).heap.size = W.heap.size + 1 := by simp
      clear HSC HBL HBW hi hlt
      generalize W.alloc (.cells (decz n) 223) = w2 at *
      go_loopw [23] (fun v23 wx => ∃ (k : Nat) (bi : Nat → Nat), v23 = .int .i64 k ∧ k ≤ n ∧ Dn wx (W.heap.size + 1) W.heap.size n bi R (fun i => i) has k ∧ ch.Touch (fun b => b = W.heap.size) w2 wx) (fun v _ => n - (intOf v).toNat)
      case atStart => exact ⟨0, _, rfl, by omega, HD0.out, HT0.out⟩
      case round =>
        obtain ⟨k, bi, rfl, hk, hdn, htx⟩ := hrel
        rename World => wx
        have HDN := Lib.hid hdn
        have HTX := Lib.hid htx
        clear hdn htx HD0 HT0
        by_cases hlt : k < n
        · have hBx : Below w.heap.size w wx := (HBW1.out.trans ((HA0.out.mono (fun _ _ h => h.elim) : ch.Touch (fun b => b = W.heap.size) W w2).below (by omega) (by rintro b rfl; omega))).trans (HTX.out.below (by omega) (by rintro b rfl; omega))
          obtain ⟨g, off, rfl, hcl2⟩ := HR.out (by omega)
          have c1 : w.cell? ⟨g, off + k, none⟩ = some (.int .u16 (Z k)) := hcl2 k hlt
          replace c1 := (hBx.cell (p := ⟨g, off + k, none⟩) (block_lt_of_cell c1)).trans c1
          have hZk := HZ.out k
          have hRk := HRR.out k
          have HHK := Lib.hid (HHS.out k)
          have HBX := Lib.hid hBx
          obtain ⟨q0, q1, q2, q3, qf⟩ := HDN.out.here hlt
          have f0 := qf (k * 4)
          have f1 := qf (k * 4 + 1)
          have f2 := qf (k * 4 + 2)
          have f3 := qf (k * 4 + 3)
          have hxs := HTX.out.size
          have hdx : W.heap.size < wx.heap.size := by omega
          have hd1 : W.heap.size < wx.heap.size + 1 := by omega
          have hd2 : W.heap.size < wx.heap.size + 1 + 1 := by omega
          have hd3 : W.heap.size < wx.heap.size + 1 + 1 + 1 := by omega
          have e0 : ((n : Int) == 0) = false := by simp; omega
          have e1 : ((Z k : Int) % (n : Int)) = ((Z k % n : Nat) : Int) := rfl
          have e2 : ((Z k : Int).tmod (n : Int)) = ((Z k % n : Nat) : Int) := rfl
          have hr : Z k % n < 65536 := Nat.lt_of_le_of_lt (Nat.mod_le _ _) hZk
          rw [← hRk] at e1 e2 hr
          clear hcl2 hBx qf hRk
          go_upto_region 21 with (go_at_call 38; refine (raw38 _ k (by omega)).mono ?_; rintro _ _ ⟨rfl, rfl⟩)
          by_cases hkn : k < nh
          · obtain ⟨g2, off2, rfl, hcl3⟩ := HH.out (by omega)
            have c2 : w.cell? ⟨g2, off2 + k, none⟩ = some (.bool (h k)) := hcl3 k hkn
            have HB21 : Below w.heap.size w (((((wx.setCell ⟨W.heap.size, k * 4, none⟩ (.iface 215 (ptr (wx.heap.size + 1 + 1)))).setCell ⟨W.heap.size, k * 4 + 1, none⟩ (.int .i32 k)).alloc (.cells #[.int .u32 0, .int .u32 (R k)] 74)).alloc (.cells #[.int .i32 k] 28)).alloc (.cells #[.int .u32 0, .int .u32 (R k)] 217)) := ((((HBX.out.setCell (by show w.heap.size ≤ W.heap.size; omega) _).setCell (by show w.heap.size ≤ W.heap.size; omega) _).alloc (by simp; omega) _).alloc (by simp; omega) _).alloc (by simp; omega) _
            replace c2 := (HB21.cell (p := ⟨g2, off2 + k, none⟩) (block_lt_of_cell c2)).trans c2
            clear hcl3 HB21
            cases hk2 : h k with
            | true =>
              rw [hk2] at c2
              have hh : has k = true := by rw [HHK.out, hk2]; simp [hkn]
              clear hk2
              have HN := Lib.hid (dnYes HDN.out hlt hdx rfl hh (.cells #[.float .f64 (floatOfInt .f64 k)] 45) (wx.heap.size + 1 + 1 + 1))
              have HT := Lib.hid (thYes (k := k) (v := .iface 215 (ptr (wx.heap.size + 1 + 1))) (u := .int .i32 k) (v2 := .iface 42 (ptr (wx.heap.size + 1 + 1 + 1))) (u2 := .int .i32 k) (o1 := .cells #[.int .u32 0, .int .u32 (R k)] 74) (o2 := .cells #[.int .i32 k] 28) (o3 := .cells #[.int .u32 0, .int .u32 (R k)] 217) (o4 := .cells #[.float .f64 (floatOfInt .f64 k)] 45) HTX.out)
              clear hh
              go_wp2_with fail
              go_roundw
              case rel => exact ⟨k + 1, _, by go_num, by omega, HN.out, HT.out⟩
              case measure => simp [intOf]; omega
            | false =>
              rw [hk2] at c2
              have hh : has k = false := by rw [HHK.out, hk2]; simp
              have HN := Lib.hid (dnNo HDN.out hlt hdx rfl hh)
              have HT := Lib.hid (thNo (k := k) (v := .iface 215 (ptr (wx.heap.size + 1 + 1))) (u := .int .i32 k) (o1 := .cells #[.int .u32 0, .int .u32 (R k)] 74) (o2 := .cells #[.int .i32 k] 28) (o3 := .cells #[.int .u32 0, .int .u32 (R k)] 217) HTX.out)
              clear hk2 hh q0 q1 q2 q3 f0 f1 f2 f3
              go_wp2_with fail
              go_roundw
              case rel => exact ⟨k + 1, _, by go_num, by omega, HN.out, HT.out⟩
              case measure => simp [intOf]; omega
          · 
            have hh : has k = false := by rw [HHK.out]; simp [hkn]
            have HN := Lib.hid (dnNo HDN.out hlt hdx rfl hh)
            have HT := Lib.hid (thNo (k := k) (v := .iface 215 (ptr (wx.heap.size + 1 + 1))) (u := .int .i32 k) (o1 := .cells #[.int .u32 0, .int .u32 (R k)] 74) (o2 := .cells #[.int .i32 k] 28) (o3 := .cells #[.int .u32 0, .int .u32 (R k)] 217) HTX.out)
            clear hh q0 q1 q2 q3 f0 f1 f2 f3
            go_wp2_with fail
            go_roundw
            case rel => exact ⟨k + 1, _, by go_num, by omega, HN.out, HT.out⟩
            case measure => simp [intOf]; omega
        · obtain rfl : k = n := by omega
          have hxs := HTX.out.size
          have HT2 : ch.Touch (fun b => b = W.heap.size) W wx := (HA0.out.mono (fun _ _ h => h.elim)).trans HTX.out
          have HF := Lib.hid (show St wx p s k ((mc % 3 : Nat) : Int) c w.heap.size depth (.slice none 0 0) from HST.out.touch HT2 (by omega) (by omega))
          have HG := Lib.hid (HSCW.out.keep (w' := wx) fun b hb => HT2.block b (by omega) (by omega))
          have HB := Lib.hid (show Below w.heap.size w wx from HBW1.out.trans (HT2.below (by omega) (by rintro b rfl; omega)))
          clear HT2
          go_wp2_with fail
          go_ret3
          exact ⟨p, s, W.heap.size, c, w.heap.size, bi, b, rfl, HF.out, HG.out, HDN.out.de, by omega, by omega, fun j hj => (by have := (HDN.out.box j hj).1; exact ⟨by omega, by omega⟩), by omega, by omega, HB.out⟩
end Go.Proofs.Ythhlioepgfjknaa.rl
