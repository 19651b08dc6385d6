/-
  Chains of conditionals: built.
-/
import Derived.Test.YthhlioepgfjknaaTa
import Derived.Deep.OwnRows
namespace Go.Proofs.Ythhlioepgfjknaa.ch
open Go.ChangeShapes Go.WideShapes Go.ChangeAt Go.RowKit Go.Deep
set_option linter.unusedVariables false
set_option linter.unusedSimpArgs false
set_option maxRecDepth 100000
set_option maxHeartbeats 4000000
/-- Block g is a row of N cells of element type T, cell p holding G p; it may be written. -/
def RowG (w : World) (g : Nat) (T : TypeId) (N : Nat) (G : Nat → Value) : Prop :=
  ∃ arr, w.heap[g]? = some (.cells arr T (0, 0)) ∧ arr.size = N ∧ ∀ p, p < N → arr[p]? = some (G p)
section
variable {w w' : World} {g N : Nat} {T : TypeId} {G : Nat → Value}
theorem RowG.lt (h : RowG w g T N G) : g < w.heap.size := by
  obtain ⟨arr, h1, _, _⟩ := h
  exact lt_of_block h1
theorem RowG.cell (h : RowG w g T N G) {p : Nat} (hp : p < N) : w.cell? ⟨g, p, none⟩ = some (G p) := by
  obtain ⟨arr, h1, _, h3⟩ := h
  rw [cell_of_row w g p _ _ _ h1]
  exact h3 p hp
theorem RowG.frozen (h : RowG w g T N G) (p : Nat) : w.frozen? ⟨g, p, none⟩ = false := by
  obtain ⟨arr, h1, _, _⟩ := h
  exact frozen_of_row w g p _ _ h1
theorem RowG.set (h : RowG w g T N G) (p : Nat) (v : Value) : RowG (w.setCell ⟨g, p, none⟩ v) g T N (fun q => if q = p then v else G q) := by
  obtain ⟨arr, h1, h2, h3⟩ := h
  refine ⟨_, heap_setCell_same w g p arr T v h1, by simpa using h2, fun q hq => ?_⟩
  by_cases e : p = q
  · subst e
    rw [Array.getElem?_setIfInBounds_self_of_lt (by omega)]
    simp
  · rw [Array.getElem?_setIfInBounds_ne e]
    show arr[q]? = some (if q = p then v else G q)
    rw [if_neg (by omega)]
    exact h3 q hq
theorem RowG.ext {G' : Nat → Value} (h : RowG w g T N G) (e : ∀ p, p < N → G p = G' p) : RowG w g T N G' := by
  obtain ⟨arr, h1, h2, h3⟩ := h
  exact ⟨arr, h1, h2, fun p hp => by rw [h3 p hp, e p hp]⟩
theorem RowG.drew (h : RowG w g T N G) : RowG w.drew g T N G := h
theorem RowG.of_block (h : RowG w g T N G) (e : w'.heap[g]? = w.heap[g]?) : RowG w' g T N G := by
  obtain ⟨arr, h1, h2, h3⟩ := h
  exact ⟨arr, e.trans h1, h2, h3⟩
theorem RowG.below {B : Nat} (h : RowG w g T N G) (hb : Below B w w') (hg : g < B) : RowG w' g T N G := h.of_block (hb.block g hg)
theorem RowG.alloc (h : RowG w g T N G) (o : Obj) : RowG (w.alloc o) g T N G := h.below ((Below.refl _ _).alloc (Nat.le_refl _) o) h.lt
theorem RowG.other (h : RowG w g T N G) (a : Addr) (v : Value) (hg : g ≠ a.block) : RowG (w.setCell a v) g T N G := h.of_block (Below.heap_setCell _ _ _ _ hg)
end
theorem RowG.made (w : World) (T : TypeId) (arr : Array Value) (G : Nat → Value) (h : ∀ p, p < arr.size → arr[p]? = some (G p)) : RowG (w.alloc (.cells arr T)) w.heap.size T arr.size G :=
  ⟨arr, heap_alloc_new w _, rfl, h⟩

/-- Nothing but block g has changed; no block has gone or come. -/
def Only (g : Nat) (w w' : World) : Prop := w'.heap.size = w.heap.size ∧ (∀ k, k ≠ g → w'.heap[k]? = w.heap[k]?) ∧ ∀ B, B ≤ g → Below B w w'
theorem Only.refl (g : Nat) (w : World) : Only g w w := ⟨rfl, fun _ _ => rfl, fun B _ => Below.refl B w⟩
theorem Only.drew {g : Nat} {w w' : World} (h : Only g w w') : Only g w w'.drew := ⟨h.1, h.2.1, fun B hB => (h.2.2 B hB).drew⟩
theorem Only.set {g : Nat} {w w' : World} (h : Only g w w') (p : Nat) (v : Value) : Only g w (w'.setCell ⟨g, p, none⟩ v) :=
  ⟨by rw [← h.1]; simp, fun k hk => (Below.heap_setCell _ _ _ _ (by exact hk)).trans (h.2.1 k hk), fun B hB => (h.2.2 B hB).setCell (by exact hB) _⟩
theorem Only.row {g g' N : Nat} {T : TypeId} {G : Nat → Value} {w w' : World} (h : Only g w w') (r : RowG w g' T N G) (hg : g' ≠ g) : RowG w' g' T N G := r.of_block (h.2.1 g' hg)
theorem Only.trans {g : Nat} {a b c : World} (h : Only g a b) (k : Only g b c) : Only g a c := ⟨k.1.trans h.1, fun i hi => (k.2.1 i hi).trans (h.2.1 i hi), fun B hB => (h.2.2 B hB).trans (k.2.2 B hB)⟩


theorem info78 : (Try.prog.info? 78).map (fun i => (i.zero, i.size, i.bytes)) = some (some (.pointer none), 1, 8) := by kernel_rfl
/-- Where the loop stands: levels i and up are there. -/
structure Bu (w wr : World) (R G N : Nat) (c : Bl) (s : Nat → Bool) (L : Nat → Int) (i : Nat) : Prop where
  nds : Nds c s L 0 i wr
  row : RowG wr G 78 c.n (fun p => if i ≤ p then .pointer (some ⟨c.e p, 0, none⟩) else .pointer none)
  nx : wr.heap[N]? = some (.cells #[.iface (c.T i) (.pointer (some ⟨c.b i, 0, none⟩)), .int .i32 (lc c L 0 i)] 30 (0, 0))
  rs : wr.heap[R]? = some (.cells #[.nilIface, .int .i32 0] 30 (0, 0))
  hi : ∀ j, i ≤ j → j < c.n → N < c.e j
  inj : ∀ j k, i ≤ j → j < c.n → i ≤ k → k < c.n → c.e j = c.e k → j = k
  bel : Below w.heap.size w wr
theorem Bu.step {w wr W : World} {R G N k : Nat} {c : Bl} {s : Nat → Bool} {L : Nat → Int} (h : Bu w wr R G N c s L (k + 1)) (hk : k < c.n) (e tb o : Nat) (he : wr.heap.size ≤ e) (hN : N < wr.heap.size) (hRN : R ≠ N) (hRG : R ≠ G) (hGN : G < N) (hR : w.heap.size ≤ R) (hG0 : w.heap.size ≤ G)
    (ht : Touch (fun b => b = G ∨ b = N) wr W)
    (hE : W.heap[e]? = some (.cells (if s k = true then #[.iface 79 (.pointer (some ⟨tb, 0, none⟩)), .int .i32 (L (3 * k)), .iface (c.T (k + 1)) (.pointer (some ⟨c.b (k + 1), 0, none⟩)), .int .i32 (lc c L 0 (k + 1)), .iface 42 (.pointer (some ⟨o, 0, none⟩)), .int .i32 (L (3 * k + 1))]
      else #[.iface 79 (.pointer (some ⟨tb, 0, none⟩)), .int .i32 (L (3 * k)), .iface 42 (.pointer (some ⟨o, 0, none⟩)), .int .i32 (L (3 * k + 1)), .iface (c.T (k + 1)) (.pointer (some ⟨c.b (k + 1), 0, none⟩)), .int .i32 (lc c L 0 (k + 1))]) 83 (0, 0)))
    (hG : RowG W G 78 c.n (fun p => if p = k then .pointer (some ⟨e, 0, none⟩) else if k + 1 ≤ p then .pointer (some ⟨c.e p, 0, none⟩) else .pointer none))
    (hNx : W.heap[N]? = some (.cells #[.iface 78 (.pointer (some ⟨e, 0, none⟩)), .int .i32 (L (3 * k + 2))] 30 (0, 0))) : ∃ c' : Bl, c'.n = c.n ∧ Bu w W R G N c' s L k := by
  have hlt : ∀ j, k + 1 ≤ j → j < c.n → c.e j < wr.heap.size := fun j h1 h2 => lt_of_block (h.nds j h1 h2)
  refine ⟨⟨c.n, fun j => if j = k then e else c.e j, fun j => if j = k then tb else c.t j, fun j => if j = k then o else c.o j⟩, rfl, ?_, ?_, ?_, ?_, ?_, ?_, ?_⟩
  · intro j h1 h2
    have h2 : j < c.n := h2
    have e1 : Bl.T ⟨c.n, fun j => if j = k then e else c.e j, fun j => if j = k then tb else c.t j, fun j => if j = k then o else c.o j⟩ (j + 1) = c.T (j + 1) := rfl
    have e2 : Bl.b ⟨c.n, fun j => if j = k then e else c.e j, fun j => if j = k then tb else c.t j, fun j => if j = k then o else c.o j⟩ (j + 1) = c.b (j + 1) := by
      unfold Bl.b
      simp only
      rw [if_neg (show ¬ j + 1 = k by omega), if_neg (show ¬ c.n = k by omega)]
    have e3 : lc ⟨c.n, fun j => if j = k then e else c.e j, fun j => if j = k then tb else c.t j, fun j => if j = k then o else c.o j⟩ L 0 (j + 1) = lc c L 0 (j + 1) := rfl
    unfold nde
    rw [e1, e2, e3]
    by_cases hj : j = k
    · subst hj
      simp only [if_pos, Int.add_zero]
      exact hE
    · simp only [if_neg hj]
      have hh := h.nds j (by omega) h2
      refine (ht.block _ (hlt j (by omega) h2) ?_).trans hh
      rintro (hh' | hh')
      · have := h.hi j (by omega) h2; omega
      · have := h.hi j (by omega) h2; omega
  · refine hG.ext fun p hp => ?_
    simp only
    by_cases hj : p = k
    · subst hj
      rw [if_pos rfl, if_pos (Nat.le_refl _), if_pos rfl]
    · rw [if_neg hj, if_neg hj]
      by_cases h3 : k + 1 ≤ p
      · rw [if_pos h3, if_pos (by omega)]
      · rw [if_neg h3, if_neg (by omega)]
  · have e1 : Bl.T ⟨c.n, fun j => if j = k then e else c.e j, fun j => if j = k then tb else c.t j, fun j => if j = k then o else c.o j⟩ k = 78 := if_pos hk
    have e2 : Bl.b ⟨c.n, fun j => if j = k then e else c.e j, fun j => if j = k then tb else c.t j, fun j => if j = k then o else c.o j⟩ k = e := by
      unfold Bl.b
      simp only
      rw [if_pos hk]
      simp
    have e3 : lc ⟨c.n, fun j => if j = k then e else c.e j, fun j => if j = k then tb else c.t j, fun j => if j = k then o else c.o j⟩ L 0 k = L (3 * k + 2) := if_pos hk
    rw [e1, e2, e3]
    exact hNx
  · refine (ht.block R (lt_of_block h.rs) ?_).trans h.rs
    rintro (hh | hh)
    · exact hRG hh
    · exact hRN hh
  · intro j h1 h2
    simp only
    by_cases hj : j = k
    · rw [if_pos hj]; omega
    · rw [if_neg hj]; exact h.hi j (by omega) h2
  · intro j j' h1 h2 h3 h4 h5
    simp only at h5
    have h2 : j < c.n := h2
    have h4 : j' < c.n := h4
    by_cases hj : j = k
    · by_cases hj' : j' = k
      · omega
      · rw [if_pos hj, if_neg hj'] at h5
        have := hlt j' (by omega) h4
        omega
    · by_cases hj' : j' = k
      · rw [if_neg hj, if_pos hj'] at h5
        have := hlt j (by omega) h2
        omega
      · rw [if_neg hj, if_neg hj'] at h5
        exact h.inj j j' (by omega) h2 (by omega) h4 h5
  · refine h.bel.trans (ht.below h.bel.size ?_)
    rintro b (rfl | rfl) <;> omega
theorem build8 (w : World) (a : Option Addr) (n cs : Nat) (s : Nat → Bool) (la : Option Addr) (m cl : Nat) (z : Nat → Int) (hn : n ≤ 4096) (hr : Row w a n (fun i => .bool (s i))) (hl : Row w la m (fun i => .int .i32 (z i))) :
    Calls Try.prog 8 #[.slice a n cs, .slice la m cl] w fun e w' => ∃ c : Bl, c.n = n ∧ e = .returned (.tuple #[ex (c.T 0) (c.b 0) (lc c (lca m z) 0 0), .slice (some ⟨w.heap.size + 1, 0, none⟩) n n]) ∧
      Nds c s (lca m z) 0 0 w' ∧ RowG w' (w.heap.size + 1) 78 n (fun p => .pointer (some ⟨c.e p, 0, none⟩)) ∧ (∀ j, j < n → w.heap.size + 3 < c.e j) ∧ (∀ j k, j < n → k < n → c.e j = c.e k → j = k) ∧ Below w.heap.size w w' := by
  have HR := Lib.hid hr
  have HL := Lib.hid hl
  have W30 := Lib.hid (fun (w' : World) (hb : Below w.heap.size w w') (x : Int) (k : Nat) (hx : x = (k : Int)) (hk : k ≤ 16384) => show Calls Try.prog 30 #[.slice la m cl, .int .i64 x] w' fun e w'' => e = .returned (.int .i32 (lca m z k)) ∧ w' = w'' by rw [hx]; exact loc30 w' la m cl z k hk (HL.out.below hb))
  clear hr hl
  have hmk := fun (w : World) => run_make_row' (P := Try.prog) 31 78 (.pointer none) 8 Try.underlying31 info78 rfl .i64 .i64 n (by omega) (by omega) w
  go_enter Try.func8, Try.ntmps8
  go_upto_region 3 with (fail)
  clear hmk
  have e3 : IntKind.i64.wrap ((3 : Int) * (n : Int)) = (3 : Int) * (n : Int) := Go.IntWalk.i64_in _ (by omega)
  go_upto_region 4 with (go_at_call 30; refine (W30.out _ (((Below.refl _ _).alloc (Nat.le_refl _) _).alloc (by simp) _) _ (3 * n) (by omega) (by omega)).mono ?_; rintro e w' ⟨rfl, rfl⟩)
  have hbu : Bu w ((((w.alloc (Obj.cells #[Value.nilIface, Value.int IntKind.i32 0] 30)).alloc (Obj.cells (madeCells #[Value.pointer none] n) 78)).alloc (Obj.cells #[Value.float FloatKind.f64 0] 45)).alloc (Obj.cells #[Value.iface 42 (Value.pointer (some { block := w.heap.size + 1 + 1, off := 0 })), Value.int IntKind.i32 (lca m z (3 * n))] 30)) w.heap.size (w.heap.size + 1) (w.heap.size + 1 + 1 + 1) ⟨n, fun _ => 0, fun _ => 0, fun _ => w.heap.size + 1 + 1⟩ s (lca m z) n := by
    refine ⟨fun j h1 h2 => absurd h2 (by show ¬ j < n; omega), ?_, ?_, ?_, fun j h1 h2 => absurd h2 (by show ¬ j < n; omega), fun j k h1 h2 => absurd h2 (by show ¬ j < n; omega), ?_⟩
    · have h := RowG.made (w.alloc (Obj.cells #[Value.nilIface, Value.int IntKind.i32 0] 30)) 78 (madeCells #[Value.pointer none] n) (fun p => if n ≤ p then .pointer (some ⟨0, 0, none⟩) else .pointer none) (fun p hp => by
        have hp : p < n := by simpa [madeCells] using hp
        rw [if_neg (by omega)]
        simp [madeCells, hp, Nat.mod_one])
      have e : (madeCells #[Value.pointer none] n).size = n := by simp [madeCells]
      rw [e] at h
      have h := (h.alloc (Obj.cells #[Value.float FloatKind.f64 0] 45)).alloc (Obj.cells #[Value.iface 42 (Value.pointer (some { block := w.heap.size + 1 + 1, off := 0 })), Value.int IntKind.i32 (lca m z (3 * n))] 30)
      simpa using h
    · have h := heap_alloc_new (((w.alloc (Obj.cells #[Value.nilIface, Value.int IntKind.i32 0] 30)).alloc (Obj.cells (madeCells #[Value.pointer none] n) 78)).alloc (Obj.cells #[Value.float FloatKind.f64 0] 45)) (Obj.cells #[Value.iface 42 (Value.pointer (some { block := w.heap.size + 1 + 1, off := 0 })), Value.int IntKind.i32 (lca m z (3 * n))] 30)
      simp only [Bl.T, Bl.b, lc, Nat.lt_irrefl, if_false, Int.add_zero]
      simpa using h
    · exact (heap_alloc_old _ _ (by simp; omega)).trans ((heap_alloc_old _ _ (by simp; omega)).trans ((heap_alloc_old _ _ (by simp)).trans (heap_alloc_new _ _)))
    · exact ((((Below.refl _ _).alloc (Nat.le_refl _) _).alloc (by simp) _).alloc (by simp; omega) _).alloc (by simp; omega) _
  have HBU := Lib.hid hbu
  clear hbu
  generalize (((w.alloc (Obj.cells #[Value.nilIface, Value.int IntKind.i32 0] 30)).alloc (Obj.cells (madeCells #[Value.pointer none] n) 78)).alloc (Obj.cells #[Value.float FloatKind.f64 0] 45)).alloc (Obj.cells #[Value.iface 42 (Value.pointer (some { block := w.heap.size + 1 + 1, off := 0 })), Value.int IntKind.i32 (lca m z (3 * n))] 30) = W1 at *
  have hRG : w.heap.size + 1 < w.heap.size + 1 + 1 + 1 := by omega
  have HE : Hid (∃ (c : Bl), c.n = n ∧ Bu w W1 w.heap.size (w.heap.size + 1) (w.heap.size + 1 + 1 + 1) c s (lca m z) n) := Lib.hid ⟨_, rfl, HBU.out⟩
  clear HBU
  generalize hN : w.heap.size + 1 + 1 + 1 = N at *
  have HNN := Lib.hid hN
  generalize hE0 : w.heap.size + 1 + 1 = E0 at *
  have HE0 := Lib.hid hE0
  clear hN hE0
  clear e3
  go_wp2_with fail
  go_loopw [9] (fun i9 wr => ∃ (i : Nat) (c : Bl), i ≤ n ∧ c.n = n ∧ i9 = .int .i64 ((i : Int) - 1) ∧ Bu w wr w.heap.size (w.heap.size + 1) N c s (lca m z) i) (fun i9 _ => (intOf i9 + 1).toNat)
  case atStart =>
    obtain ⟨c, h1, h2⟩ := HE.out
    exact ⟨n, c, Nat.le_refl _, h1, by go_num, h2⟩
  case round =>
    obtain ⟨i, c, hi, hc, rfl, hB⟩ := hrel
    have HB := Lib.hid hB
    rename World => wr
    clear HE hB
    rcases i with _ | k
    · have y1 := HB.out.nx
      have y2 := HB.out.rs
      generalize hT : c.T 0 = T at *
      generalize hb : c.b 0 = b at *
      generalize hl : lc c (lca m z) 0 0 = l at *
      have g0 : wr.cell? ⟨N, 0, none⟩ = some (.iface T (.pointer (some ⟨b, 0, none⟩))) := (cell_of_row _ _ 0 _ _ _ y1).trans rfl
      have g1 : wr.cell? ⟨N, 1, none⟩ = some (.int .i32 l) := (cell_of_row _ _ 1 _ _ _ y1).trans rfl
      have a0 : wr.cell? ⟨w.heap.size, 0, none⟩ = some .nilIface := (cell_of_row _ _ 0 _ _ _ y2).trans rfl
      have b0 := frozen_of_row _ _ 0 _ _ y2
      have x2 := heap_setCell_same _ _ 0 _ _ (Value.iface T (Value.pointer (some { block := b, off := 0 }))) y2
      have a1 : (wr.setCell ⟨w.heap.size, 0, none⟩ (Value.iface T (Value.pointer (some { block := b, off := 0 })))).cell? ⟨w.heap.size, 1, none⟩ = some (.int .i32 0) := (cell_of_row _ _ 1 _ _ _ x2).trans rfl
      have b1 := frozen_of_row _ _ 1 _ _ x2
      have X3 := Lib.hid (heap_setCell_same _ _ 1 _ _ (.int .i32 l) x2)
      have e0 : decide ((0 : Int) ≤ ((0 : Nat) : Int) - 1) = false := by decide
      clear y1 y2 x2
      go_wp2_with fail
      have x3 := X3.out
      have r0 := (cell_of_row _ _ 0 _ _ _ x3)
      have r1 := (cell_of_row _ _ 1 _ _ _ x3)
      have hN3 := HNN.out
      have hN4 := HE0.out
      refine bodyPost_ret (v := .tuple #[ex T b l, .slice (some ⟨w.heap.size + 1, 0, none⟩) n n]) (by simp [results, Try.results8, go_sem, r0, r1]) rfl ⟨c, hc, by rw [hT, hb, hl], ?_, ?_, ?_, ?_, ?_⟩
      · refine HB.out.nds.keep (((Touch.refl (fun k => k = w.heap.size) _).setCell _ (fun _ => rfl) _).setCell _ (fun _ => rfl) _) fun j h1 h2 h => ?_
        have := HB.out.hi j h1 h2
        omega
      · have h := (HB.out.row.other ⟨w.heap.size, 0, none⟩ (Value.iface T (Value.pointer (some { block := b, off := 0 }))) (by simp)).other ⟨w.heap.size, 1, none⟩ (.int .i32 l) (by simp)
        rw [hc] at h
        exact h.ext fun p _ => if_pos (Nat.zero_le p)
      · intro j h2
        have := HB.out.hi j (Nat.zero_le _) (by omega)
        omega
      · intro j k h1 h2
        exact HB.out.inj j k (Nat.zero_le _) (by omega) (Nat.zero_le _) (by omega)
      · exact (HB.out.bel.setCell (by simp) _).setCell (by simp) _
    · have ek : ((k + 1 : Nat) : Int) - 1 = (k : Int) := by omega
      rw [ek]
      clear ek
      have y1 := HB.out.nx
      obtain ⟨bo, off, rfl, hcs⟩ := HR.out (by omega)
      have c1' := hcs k (by omega)
      have c1 := (HB.out.bel.cell (p := ⟨bo, off + k, none⟩) (block_lt_of_cell c1')).trans c1'
      have hbo : bo < wr.heap.size := block_lt_of_cell c1
      clear c1' hcs
      generalize hT : c.T (k + 1) = T at *
      generalize hb : c.b (k + 1) = b at *
      generalize hl : lc c (lca m z) 0 (k + 1) = l at *
      have hNl : N < wr.heap.size := lt_of_block y1
      have hGl : w.heap.size + 1 < wr.heap.size := HB.out.row.lt
      have p0 := HB.out.row.cell (p := k) (by omega)
      rw [if_neg (by omega)] at p0
      have q0 := HB.out.row.frozen k
      have f1 : IntKind.i64.wrap ((3 : Int) * (k : Int)) = (3 : Int) * (k : Int) := Go.IntWalk.i64_in _ (by omega)
      have f2 : IntKind.i64.wrap ((3 : Int) * (k : Int) + 1) = (3 : Int) * (k : Int) + 1 := Go.IntWalk.i64_in _ (by omega)
      have f3 : IntKind.i64.wrap ((3 : Int) * (k : Int) + 2) = (3 : Int) * (k : Int) + 2 := Go.IntWalk.i64_in _ (by omega)
      have BW := Lib.hid HB.out.bel
      clear y1
      go_upto_region 8 with (go_at_call 30; refine (W30.out _ BW.out _ (3 * k + 1) (by omega) (by omega)).mono ?_; rintro e w' ⟨rfl, rfl⟩)
      go_upto_region 9 with (go_at_call 30; refine (W30.out _ ((BW.out.alloc (by have := BW.out.size; omega) _).alloc (by have := BW.out.size; simp; omega) _) _ (3 * k) (by omega) (by omega)).mono ?_; rintro e w' ⟨rfl, rfl⟩)
      have t4 : Touch (fun _ => False) wr ((((wr.alloc (Obj.cells #[Value.float FloatKind.f64 4607182418800017408] 45)).alloc (Obj.cells #[Value.iface 42 (Value.pointer (some { block := wr.heap.size, off := 0 })), Value.int IntKind.i32 (lca m z (3 * k + 1))] 30)).alloc (Obj.cells #[Value.int IntKind.u32 0, Value.int IntKind.u32 0, Value.bool false, Value.bool false, Value.bool false] 81)).alloc (Obj.cells #[Value.iface 79 (Value.pointer (some { block := wr.heap.size + 1 + 1, off := 0 })), Value.int IntKind.i32 (lca m z (3 * k)), Value.nilIface, Value.int IntKind.i32 0, Value.nilIface, Value.int IntKind.i32 0] 83)) := ((((Touch.refl _ _).alloc _).alloc _).alloc _).alloc _
      have y3 : ((((wr.alloc (Obj.cells #[Value.float FloatKind.f64 4607182418800017408] 45)).alloc (Obj.cells #[Value.iface 42 (Value.pointer (some { block := wr.heap.size, off := 0 })), Value.int IntKind.i32 (lca m z (3 * k + 1))] 30)).alloc (Obj.cells #[Value.int IntKind.u32 0, Value.int IntKind.u32 0, Value.bool false, Value.bool false, Value.bool false] 81)).alloc (Obj.cells #[Value.iface 79 (Value.pointer (some { block := wr.heap.size + 1 + 1, off := 0 })), Value.int IntKind.i32 (lca m z (3 * k)), Value.nilIface, Value.int IntKind.i32 0, Value.nilIface, Value.int IntKind.i32 0] 83)).heap[wr.heap.size + 1 + 1 + 1]? = some (.cells #[Value.iface 79 (Value.pointer (some { block := wr.heap.size + 1 + 1, off := 0 })), Value.int IntKind.i32 (lca m z (3 * k)), Value.nilIface, Value.int IntKind.i32 0, Value.nilIface, Value.int IntKind.i32 0] 83 (0, 0)) := by
        have h := fun A B C D => heap_alloc_new (((wr.alloc A).alloc B).alloc C) D
        simpa using h _ _ _ _
      have y4 : ((((wr.alloc (Obj.cells #[Value.float FloatKind.f64 4607182418800017408] 45)).alloc (Obj.cells #[Value.iface 42 (Value.pointer (some { block := wr.heap.size, off := 0 })), Value.int IntKind.i32 (lca m z (3 * k + 1))] 30)).alloc (Obj.cells #[Value.int IntKind.u32 0, Value.int IntKind.u32 0, Value.bool false, Value.bool false, Value.bool false] 81)).alloc (Obj.cells #[Value.iface 79 (Value.pointer (some { block := wr.heap.size + 1 + 1, off := 0 })), Value.int IntKind.i32 (lca m z (3 * k)), Value.nilIface, Value.int IntKind.i32 0, Value.nilIface, Value.int IntKind.i32 0] 83)).heap[wr.heap.size + 1]? = some (.cells #[Value.iface 42 (Value.pointer (some { block := wr.heap.size, off := 0 })), Value.int IntKind.i32 (lca m z (3 * k + 1))] 30 (0, 0)) := by
        refine (heap_alloc_old _ _ (by simp)).trans ((heap_alloc_old _ _ (by simp)).trans ?_)
        have h := fun A B => heap_alloc_new (wr.alloc A) B
        simpa using h _ _
      generalize (((wr.alloc (Obj.cells #[Value.float FloatKind.f64 4607182418800017408] 45)).alloc (Obj.cells #[Value.iface 42 (Value.pointer (some { block := wr.heap.size, off := 0 })), Value.int IntKind.i32 (lca m z (3 * k + 1))] 30)).alloc (Obj.cells #[Value.int IntKind.u32 0, Value.int IntKind.u32 0, Value.bool false, Value.bool false, Value.bool false] 81)).alloc (Obj.cells #[Value.iface 79 (Value.pointer (some { block := wr.heap.size + 1 + 1, off := 0 })), Value.int IntKind.i32 (lca m z (3 * k)), Value.nilIface, Value.int IntKind.i32 0, Value.nilIface, Value.int IntKind.i32 0] 83) = W4 at *
      have y1 := (t4.block N hNl (fun h => h)).trans HB.out.nx
      have d1 := (World.cell?_of_block (a := ⟨bo, off + k, none⟩) (t4.block bo hbo (fun h => h))).trans c1
      have g0 : W4.cell? ⟨N, 0, none⟩ = some (.iface T (.pointer (some ⟨b, 0, none⟩))) := (cell_of_row _ _ 0 _ _ _ y1).trans (by rw [hT, hb]; rfl)
      have g1 : W4.cell? ⟨N, 1, none⟩ = some (.int .i32 l) := (cell_of_row _ _ 1 _ _ _ y1).trans (by rw [hl]; rfl)
      have o0 : W4.cell? ⟨wr.heap.size + 1, 0, none⟩ = some (.iface 42 (.pointer (some ⟨wr.heap.size, 0, none⟩))) := (cell_of_row _ _ 0 _ _ _ y4).trans rfl
      have o1 : W4.cell? ⟨wr.heap.size + 1, 1, none⟩ = some (.int .i32 (lca m z (3 * k + 1))) := (cell_of_row _ _ 1 _ _ _ y4).trans rfl
      have Y1 := Lib.hid y1
      have Y4 := Lib.hid y4
      have Y3 := Lib.hid y3
      have T4 := Lib.hid t4
      have hEN : wr.heap.size + 1 + 1 + 1 ≠ N := by omega
      have hsz : wr.heap.size < wr.heap.size + 1 + 1 + 1 := by omega
      generalize hTB : wr.heap.size + 1 + 1 = tb at *
      clear p0 q0 c1 t4 y3 y4 y1
      cases hs : s k
      · rw [hs] at d1
        have HS := Lib.hid hs
        clear hs
        have y3 := Y3.out
        have s1a0 : (W4).cell? ⟨tb + 1, 2, none⟩ = some (.nilIface) := (cell_of_row _ _ 2 _ _ _ y3).trans rfl
        have s1b0 := frozen_of_row _ _ 2 _ _ y3
        have s1x0 := heap_setCell_same _ _ 2 _ _ (.iface 42 (.pointer (some ⟨wr.heap.size, 0, none⟩))) y3
        have s1a1 : ((W4).setCell ⟨tb + 1, 2, none⟩ (.iface 42 (.pointer (some ⟨wr.heap.size, 0, none⟩)))).cell? ⟨tb + 1, 3, none⟩ = some (.int .i32 0) := (cell_of_row _ _ 3 _ _ _ s1x0).trans rfl
        have s1b1 := frozen_of_row _ _ 3 _ _ s1x0
        have s1x1 := heap_setCell_same _ _ 3 _ _ (.int .i32 (lca m z (3 * k + 1))) s1x0
        have X1 := Lib.hid s1x1
        clear y3 s1x0 s1x1
        go_upto_region 13 with (fail)
        have x1 := X1.out
        have t5 : Touch (fun b => b = tb + 1) W4 (((W4).setCell ⟨tb + 1, 2, none⟩ (.iface 42 (.pointer (some ⟨wr.heap.size, 0, none⟩)))).setCell ⟨tb + 1, 3, none⟩ (.int .i32 (lca m z (3 * k + 1)))) := ((Touch.refl (fun b => b = tb + 1) _).setCell _ (fun _ => rfl) _).setCell _ (fun _ => rfl) _
        have y1 := (t5.block N (lt_of_block Y1.out) (fun h => hEN h.symm)).trans Y1.out
        have y4 := (t5.block _ (lt_of_block Y4.out) (fun h => by omega)).trans Y4.out
        clear s1a0 s1a1 s1b0 s1b1 g0 g1 o0 o1 d1
        simp only [List.setIfInBounds_toArray, List.set_cons_zero, List.set_cons_succ] at x1
        clear X1
        generalize ((W4).setCell ⟨tb + 1, 2, none⟩ (.iface 42 (.pointer (some ⟨wr.heap.size, 0, none⟩)))).setCell ⟨tb + 1, 3, none⟩ (.int .i32 (lca m z (3 * k + 1))) = W5 at *
        have g0 : W5.cell? ⟨N, 0, none⟩ = some (.iface T (.pointer (some ⟨b, 0, none⟩))) := (cell_of_row _ _ 0 _ _ _ y1).trans (by rw [hT, hb]; rfl)
        have g1 : W5.cell? ⟨N, 1, none⟩ = some (.int .i32 l) := (cell_of_row _ _ 1 _ _ _ y1).trans (by rw [hl]; rfl)
        have o0 : W5.cell? ⟨wr.heap.size + 1, 0, none⟩ = some (.iface 42 (.pointer (some ⟨wr.heap.size, 0, none⟩))) := (cell_of_row _ _ 0 _ _ _ y4).trans rfl
        have o1 : W5.cell? ⟨wr.heap.size + 1, 1, none⟩ = some (.int .i32 (lca m z (3 * k + 1))) := (cell_of_row _ _ 1 _ _ _ y4).trans rfl
        have s2a0 : (W5).cell? ⟨tb + 1, 4, none⟩ = some (.nilIface) := (cell_of_row _ _ 4 _ _ _ x1).trans rfl
        have s2b0 := frozen_of_row _ _ 4 _ _ x1
        have s2x0 := heap_setCell_same _ _ 4 _ _ (.iface T (.pointer (some ⟨b, 0, none⟩))) x1
        have s2a1 : ((W5).setCell ⟨tb + 1, 4, none⟩ (.iface T (.pointer (some ⟨b, 0, none⟩)))).cell? ⟨tb + 1, 5, none⟩ = some (.int .i32 0) := (cell_of_row _ _ 5 _ _ _ s2x0).trans rfl
        have s2b1 := frozen_of_row _ _ 5 _ _ s2x0
        have s2x1 := heap_setCell_same _ _ 5 _ _ (.int .i32 l) s2x0
        have X2 := Lib.hid s2x1
        have T5 := Lib.hid t5
        clear y1 y4 x1 s2x0 s2x1 t5
        go_upto_region 14 with (fail)
        have x2 := X2.out
        have t6 : Touch (fun b => b = tb + 1) W4 (((W5).setCell ⟨tb + 1, 4, none⟩ (.iface T (.pointer (some ⟨b, 0, none⟩)))).setCell ⟨tb + 1, 5, none⟩ (.int .i32 l)) := (T5.out.setCell _ (fun _ => rfl) _).setCell _ (fun _ => rfl) _
        have t6' : Touch (fun b => b = tb + 1) wr (((W5).setCell ⟨tb + 1, 4, none⟩ (.iface T (.pointer (some ⟨b, 0, none⟩)))).setCell ⟨tb + 1, 5, none⟩ (.int .i32 l)) := (T4.out.mono fun _ _ h => h.elim).trans t6
        simp only [List.setIfInBounds_toArray, List.set_cons_zero, List.set_cons_succ] at x2
        clear s2a0 s2a1 s2b0 s2b1 g0 g1 o0 o1 X2 T5
        have rG := HB.out.row.of_block (t6'.block (w.heap.size + 1) hGl (by intro h; omega))
        have y1 := (t6.block N (lt_of_block Y1.out) (fun h => hEN h.symm)).trans Y1.out
        generalize ((W5).setCell ⟨tb + 1, 4, none⟩ (.iface T (.pointer (some ⟨b, 0, none⟩)))).setCell ⟨tb + 1, 5, none⟩ (.int .i32 l) = W6 at *
        have p0 := rG.cell (p := k) (by omega)
        rw [if_neg (by omega)] at p0
        have q0 := rG.frozen k
        have RG := Lib.hid (rG.set k (.pointer (some ⟨tb + 1, 0, none⟩)))
        have X2 := Lib.hid x2
        have T6 := Lib.hid t6'
        have Y1' := Lib.hid y1
        clear rG x2 t6 t6' y1 Y1 Y4 Y3 T4
        go_upto_region 15 with (fail)
        have t7 : Touch (fun b => b = w.heap.size + 1) W6 (W6.setCell ⟨w.heap.size + 1, k, none⟩ (.pointer (some ⟨tb + 1, 0, none⟩))) := (Touch.refl (fun b => b = w.heap.size + 1) _).setCell _ (fun _ => rfl) _
        have x2 := (t7.block _ (lt_of_block X2.out) (by intro h; omega)).trans X2.out
        have y1 := (t7.block _ (lt_of_block Y1'.out) (by intro h; omega)).trans Y1'.out
        have t8 : Touch (fun b => b = tb + 1 ∨ b = w.heap.size + 1) wr (W6.setCell ⟨w.heap.size + 1, k, none⟩ (.pointer (some ⟨tb + 1, 0, none⟩))) := (T6.out.mono fun _ _ h => .inl h).trans (t7.mono fun _ _ h => .inr h)
        have rG := RG.out
        clear RG X2 Y1' T6 p0 q0 t7
        generalize W6.setCell ⟨w.heap.size + 1, k, none⟩ (.pointer (some ⟨tb + 1, 0, none⟩)) = W7 at *
        have BW7 := Lib.hid (BW.out.trans (t8.below BW.out.size (by rintro b (rfl | rfl) <;> omega)))
        have s3a0 : (W7).cell? ⟨N, 0, none⟩ = some (.iface (c.T (k + 1)) (.pointer (some ⟨c.b (k + 1), 0, none⟩))) := (cell_of_row _ _ 0 _ _ _ y1).trans rfl
        have s3b0 := frozen_of_row _ _ 0 _ _ y1
        have s3x0 := heap_setCell_same _ _ 0 _ _ (.iface 78 (.pointer (some ⟨tb + 1, 0, none⟩))) y1
        have s3a1 : ((W7).setCell ⟨N, 0, none⟩ (.iface 78 (.pointer (some ⟨tb + 1, 0, none⟩)))).cell? ⟨N, 1, none⟩ = some (.int .i32 (lc c (lca m z) 0 (k + 1))) := (cell_of_row _ _ 1 _ _ _ s3x0).trans rfl
        have s3b1 := frozen_of_row _ _ 1 _ _ s3x0
        have s3x1 := heap_setCell_same _ _ 1 _ _ (.int .i32 (lca m z (3 * k + 2))) s3x0
        have X3 := Lib.hid s3x1
        have X2 := Lib.hid x2
        have T8 := Lib.hid t8
        have RG := Lib.hid rG
        clear x2 t8 rG y1 s3x0 s3x1
        go_wp2_with (go_at_call 30; refine (W30.out _ BW7.out _ (3 * k + 2) (by omega) (by omega)).mono ?_; rintro e w' ⟨rfl, rfl⟩)
        have x3 := X3.out
        simp only [List.setIfInBounds_toArray, List.set_cons_zero, List.set_cons_succ] at x3
        have tN : Touch (fun b => b = N) W7 (((W7).setCell ⟨N, 0, none⟩ (.iface 78 (.pointer (some ⟨tb + 1, 0, none⟩)))).setCell ⟨N, 1, none⟩ (.int .i32 (lca m z (3 * k + 2)))) := ((Touch.refl (fun b => b = N) _).setCell _ (fun _ => rfl) _).setCell _ (fun _ => rfl) _
        have tF : Touch (fun b => b = w.heap.size + 1 ∨ b = N) wr (((W7).setCell ⟨N, 0, none⟩ (.iface 78 (.pointer (some ⟨tb + 1, 0, none⟩)))).setCell ⟨N, 1, none⟩ (.int .i32 (lca m z (3 * k + 2)))) := (T8.out.mono fun q hq h => h.elim (fun h => absurd hq (by rw [h]; omega)) (fun h => .inl h)).trans (tN.mono fun _ _ h => .inr h)
        have hE := (tN.block _ (lt_of_block X2.out) (by intro h; omega)).trans X2.out
        have hG := RG.out.of_block (tN.block (w.heap.size + 1) RG.out.lt (by intro h; omega))
        subst hT hb hl
        obtain ⟨c', hc', hB'⟩ := HB.out.step (by omega) (tb + 1) tb wr.heap.size (by omega) hNl (by omega) (by omega) hRG (by omega) (by omega) tF (by rw [HS.out]; exact hE) hG x3
        have HB' := Lib.hid hB'
        clear hE hG tF tN x3 hB' s3a0 s3a1 s3b0 s3b1 X3 X2 T8 RG HB BW BW7
        go_roundw
        case rel => exact ⟨k, c', by omega, hc'.trans hc, by go_num, HB'.out⟩
        case measure => simp [intOf]
      · rw [hs] at d1
        have HS := Lib.hid hs
        clear hs
        have y3 := Y3.out
        have s1a0 : (W4).cell? ⟨tb + 1, 2, none⟩ = some (.nilIface) := (cell_of_row _ _ 2 _ _ _ y3).trans rfl
        have s1b0 := frozen_of_row _ _ 2 _ _ y3
        have s1x0 := heap_setCell_same _ _ 2 _ _ (.iface T (.pointer (some ⟨b, 0, none⟩))) y3
        have s1a1 : ((W4).setCell ⟨tb + 1, 2, none⟩ (.iface T (.pointer (some ⟨b, 0, none⟩)))).cell? ⟨tb + 1, 3, none⟩ = some (.int .i32 0) := (cell_of_row _ _ 3 _ _ _ s1x0).trans rfl
        have s1b1 := frozen_of_row _ _ 3 _ _ s1x0
        have s1x1 := heap_setCell_same _ _ 3 _ _ (.int .i32 l) s1x0
        have X1 := Lib.hid s1x1
        clear y3 s1x0 s1x1
        go_upto_region 11 with (fail)
        have x1 := X1.out
        have t5 : Touch (fun b => b = tb + 1) W4 (((W4).setCell ⟨tb + 1, 2, none⟩ (.iface T (.pointer (some ⟨b, 0, none⟩)))).setCell ⟨tb + 1, 3, none⟩ (.int .i32 l)) := ((Touch.refl (fun b => b = tb + 1) _).setCell _ (fun _ => rfl) _).setCell _ (fun _ => rfl) _
        have y1 := (t5.block N (lt_of_block Y1.out) (fun h => hEN h.symm)).trans Y1.out
        have y4 := (t5.block _ (lt_of_block Y4.out) (fun h => by omega)).trans Y4.out
        clear s1a0 s1a1 s1b0 s1b1 g0 g1 o0 o1 d1
        simp only [List.setIfInBounds_toArray, List.set_cons_zero, List.set_cons_succ] at x1
        clear X1
        generalize ((W4).setCell ⟨tb + 1, 2, none⟩ (.iface T (.pointer (some ⟨b, 0, none⟩)))).setCell ⟨tb + 1, 3, none⟩ (.int .i32 l) = W5 at *
        have g0 : W5.cell? ⟨N, 0, none⟩ = some (.iface T (.pointer (some ⟨b, 0, none⟩))) := (cell_of_row _ _ 0 _ _ _ y1).trans (by rw [hT, hb]; rfl)
        have g1 : W5.cell? ⟨N, 1, none⟩ = some (.int .i32 l) := (cell_of_row _ _ 1 _ _ _ y1).trans (by rw [hl]; rfl)
        have o0 : W5.cell? ⟨wr.heap.size + 1, 0, none⟩ = some (.iface 42 (.pointer (some ⟨wr.heap.size, 0, none⟩))) := (cell_of_row _ _ 0 _ _ _ y4).trans rfl
        have o1 : W5.cell? ⟨wr.heap.size + 1, 1, none⟩ = some (.int .i32 (lca m z (3 * k + 1))) := (cell_of_row _ _ 1 _ _ _ y4).trans rfl
        have s2a0 : (W5).cell? ⟨tb + 1, 4, none⟩ = some (.nilIface) := (cell_of_row _ _ 4 _ _ _ x1).trans rfl
        have s2b0 := frozen_of_row _ _ 4 _ _ x1
        have s2x0 := heap_setCell_same _ _ 4 _ _ (.iface 42 (.pointer (some ⟨wr.heap.size, 0, none⟩))) x1
        have s2a1 : ((W5).setCell ⟨tb + 1, 4, none⟩ (.iface 42 (.pointer (some ⟨wr.heap.size, 0, none⟩)))).cell? ⟨tb + 1, 5, none⟩ = some (.int .i32 0) := (cell_of_row _ _ 5 _ _ _ s2x0).trans rfl
        have s2b1 := frozen_of_row _ _ 5 _ _ s2x0
        have s2x1 := heap_setCell_same _ _ 5 _ _ (.int .i32 (lca m z (3 * k + 1))) s2x0
        have X2 := Lib.hid s2x1
        have T5 := Lib.hid t5
        clear y1 y4 x1 s2x0 s2x1 t5
        go_upto_region 14 with (fail)
        have x2 := X2.out
        have t6 : Touch (fun b => b = tb + 1) W4 (((W5).setCell ⟨tb + 1, 4, none⟩ (.iface 42 (.pointer (some ⟨wr.heap.size, 0, none⟩)))).setCell ⟨tb + 1, 5, none⟩ (.int .i32 (lca m z (3 * k + 1)))) := (T5.out.setCell _ (fun _ => rfl) _).setCell _ (fun _ => rfl) _
        have t6' : Touch (fun b => b = tb + 1) wr (((W5).setCell ⟨tb + 1, 4, none⟩ (.iface 42 (.pointer (some ⟨wr.heap.size, 0, none⟩)))).setCell ⟨tb + 1, 5, none⟩ (.int .i32 (lca m z (3 * k + 1)))) := (T4.out.mono fun _ _ h => h.elim).trans t6
        simp only [List.setIfInBounds_toArray, List.set_cons_zero, List.set_cons_succ] at x2
        clear s2a0 s2a1 s2b0 s2b1 g0 g1 o0 o1 X2 T5
        have rG := HB.out.row.of_block (t6'.block (w.heap.size + 1) hGl (by intro h; omega))
        have y1 := (t6.block N (lt_of_block Y1.out) (fun h => hEN h.symm)).trans Y1.out
        generalize ((W5).setCell ⟨tb + 1, 4, none⟩ (.iface 42 (.pointer (some ⟨wr.heap.size, 0, none⟩)))).setCell ⟨tb + 1, 5, none⟩ (.int .i32 (lca m z (3 * k + 1))) = W6 at *
        have p0 := rG.cell (p := k) (by omega)
        rw [if_neg (by omega)] at p0
        have q0 := rG.frozen k
        have RG := Lib.hid (rG.set k (.pointer (some ⟨tb + 1, 0, none⟩)))
        have X2 := Lib.hid x2
        have T6 := Lib.hid t6'
        have Y1' := Lib.hid y1
        clear rG x2 t6 t6' y1 Y1 Y4 Y3 T4
        go_upto_region 15 with (fail)
        have t7 : Touch (fun b => b = w.heap.size + 1) W6 (W6.setCell ⟨w.heap.size + 1, k, none⟩ (.pointer (some ⟨tb + 1, 0, none⟩))) := (Touch.refl (fun b => b = w.heap.size + 1) _).setCell _ (fun _ => rfl) _
        have x2 := (t7.block _ (lt_of_block X2.out) (by intro h; omega)).trans X2.out
        have y1 := (t7.block _ (lt_of_block Y1'.out) (by intro h; omega)).trans Y1'.out
        have t8 : Touch (fun b => b = tb + 1 ∨ b = w.heap.size + 1) wr (W6.setCell ⟨w.heap.size + 1, k, none⟩ (.pointer (some ⟨tb + 1, 0, none⟩))) := (T6.out.mono fun _ _ h => .inl h).trans (t7.mono fun _ _ h => .inr h)
        have rG := RG.out
        clear RG X2 Y1' T6 p0 q0 t7
        generalize W6.setCell ⟨w.heap.size + 1, k, none⟩ (.pointer (some ⟨tb + 1, 0, none⟩)) = W7 at *
        have BW7 := Lib.hid (BW.out.trans (t8.below BW.out.size (by rintro b (rfl | rfl) <;> omega)))
        have s3a0 : (W7).cell? ⟨N, 0, none⟩ = some (.iface (c.T (k + 1)) (.pointer (some ⟨c.b (k + 1), 0, none⟩))) := (cell_of_row _ _ 0 _ _ _ y1).trans rfl
        have s3b0 := frozen_of_row _ _ 0 _ _ y1
        have s3x0 := heap_setCell_same _ _ 0 _ _ (.iface 78 (.pointer (some ⟨tb + 1, 0, none⟩))) y1
        have s3a1 : ((W7).setCell ⟨N, 0, none⟩ (.iface 78 (.pointer (some ⟨tb + 1, 0, none⟩)))).cell? ⟨N, 1, none⟩ = some (.int .i32 (lc c (lca m z) 0 (k + 1))) := (cell_of_row _ _ 1 _ _ _ s3x0).trans rfl
        have s3b1 := frozen_of_row _ _ 1 _ _ s3x0
        have s3x1 := heap_setCell_same _ _ 1 _ _ (.int .i32 (lca m z (3 * k + 2))) s3x0
        have X3 := Lib.hid s3x1
        have X2 := Lib.hid x2
        have T8 := Lib.hid t8
        have RG := Lib.hid rG
        clear x2 t8 rG y1 s3x0 s3x1
        go_wp2_with (go_at_call 30; refine (W30.out _ BW7.out _ (3 * k + 2) (by omega) (by omega)).mono ?_; rintro e w' ⟨rfl, rfl⟩)
        have x3 := X3.out
        simp only [List.setIfInBounds_toArray, List.set_cons_zero, List.set_cons_succ] at x3
        have tN : Touch (fun b => b = N) W7 (((W7).setCell ⟨N, 0, none⟩ (.iface 78 (.pointer (some ⟨tb + 1, 0, none⟩)))).setCell ⟨N, 1, none⟩ (.int .i32 (lca m z (3 * k + 2)))) := ((Touch.refl (fun b => b = N) _).setCell _ (fun _ => rfl) _).setCell _ (fun _ => rfl) _
        have tF : Touch (fun b => b = w.heap.size + 1 ∨ b = N) wr (((W7).setCell ⟨N, 0, none⟩ (.iface 78 (.pointer (some ⟨tb + 1, 0, none⟩)))).setCell ⟨N, 1, none⟩ (.int .i32 (lca m z (3 * k + 2)))) := (T8.out.mono fun q hq h => h.elim (fun h => absurd hq (by rw [h]; omega)) (fun h => .inl h)).trans (tN.mono fun _ _ h => .inr h)
        have hE := (tN.block _ (lt_of_block X2.out) (by intro h; omega)).trans X2.out
        have hG := RG.out.of_block (tN.block (w.heap.size + 1) RG.out.lt (by intro h; omega))
        subst hT hb hl
        obtain ⟨c', hc', hB'⟩ := HB.out.step (by omega) (tb + 1) tb wr.heap.size (by omega) hNl (by omega) (by omega) hRG (by omega) (by omega) tF (by rw [HS.out]; exact hE) hG x3
        have HB' := Lib.hid hB'
        clear hE hG tF tN x3 hB' s3a0 s3a1 s3b0 s3b1 X3 X2 T8 RG HB BW BW7
        go_roundw
        case rel => exact ⟨k, c', by omega, hc'.trans hc, by go_num, HB'.out⟩
        case measure => simp [intOf]
end Go.Proofs.Ythhlioepgfjknaa.ch
