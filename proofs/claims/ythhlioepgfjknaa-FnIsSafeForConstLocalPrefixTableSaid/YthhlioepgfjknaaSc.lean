/-
  Safe expressions: the helpers of the statement walked.
-/
import Derived.Test.YthhlioepgfjknaaSb
import Derived.Deep.RegionHeld3
import Derived.Laws.MakeOwn
namespace Go.Proofs.Ythhlioepgfjknaa.sf
open Go.ChangeShapes Go.WideShapes Go.ChangeAt Go.RowKit Go.Deep
set_option linter.unusedVariables false
set_option linter.unusedSimpArgs false
/-- Block g is a row of N cells of element type T, cell p holding G p; it may be written. -/
def RowG (w : World) (g : Nat) (T : TypeId) (N : Nat) (G : Nat → Value) : Prop :=
  ∃ arr, w.heap[g]? = some (.cells arr T (0, 0)) ∧ arr.size = N ∧ ∀ p, p < N → arr[p]? = some (G p)
section
variable {w w' : World} {g N : Nat} {T : TypeId} {G : Nat → Value}
theorem RowG.lt (h : RowG w g T N G) : g < w.heap.size := by
  obtain ⟨arr, h1, _, _⟩ := h
  exact lt_of_block h1
theorem RowG.cell (h : RowG w g T N G) {p : Nat} (hp : p < N) : w.cell? ⟨g, p, none⟩ = some (G p) := by
  obtain ⟨arr, h1, _, h3⟩ := h
  rw [cell_of_row w g p _ _ _ h1]
  exact h3 p hp
theorem RowG.frozen (h : RowG w g T N G) (p : Nat) : w.frozen? ⟨g, p, none⟩ = false := by
  obtain ⟨arr, h1, _, _⟩ := h
  exact frozen_of_row w g p _ _ h1
theorem RowG.set (h : RowG w g T N G) (p : Nat) (v : Value) : RowG (w.setCell ⟨g, p, none⟩ v) g T N (fun q => if q = p then v else G q) := by
  obtain ⟨arr, h1, h2, h3⟩ := h
  refine ⟨_, heap_setCell_same w g p arr T v h1, by simpa using h2, fun q hq => ?_⟩
  by_cases e : p = q
  · subst e
    rw [Array.getElem?_setIfInBounds_self_of_lt (by omega)]
    simp
  · rw [Array.getElem?_setIfInBounds_ne e]
    show arr[q]? = some (if q = p then v else G q)
    rw [if_neg (by omega)]
    exact h3 q hq
theorem RowG.ext {G' : Nat → Value} (h : RowG w g T N G) (e : ∀ p, p < N → G p = G' p) : RowG w g T N G' := by
  obtain ⟨arr, h1, h2, h3⟩ := h
  exact ⟨arr, h1, h2, fun p hp => by rw [h3 p hp, e p hp]⟩
theorem RowG.drew (h : RowG w g T N G) : RowG w.drew g T N G := h
theorem RowG.of_block (h : RowG w g T N G) (e : w'.heap[g]? = w.heap[g]?) : RowG w' g T N G := by
  obtain ⟨arr, h1, h2, h3⟩ := h
  exact ⟨arr, e.trans h1, h2, h3⟩
theorem RowG.below {B : Nat} (h : RowG w g T N G) (hb : Below B w w') (hg : g < B) : RowG w' g T N G := h.of_block (hb.block g hg)
theorem RowG.alloc (h : RowG w g T N G) (o : Obj) : RowG (w.alloc o) g T N G := h.below ((Below.refl _ _).alloc (Nat.le_refl _) o) h.lt
theorem RowG.other (h : RowG w g T N G) (a : Addr) (v : Value) (hg : g ≠ a.block) : RowG (w.setCell a v) g T N G := h.of_block (Below.heap_setCell _ _ _ _ hg)
end
theorem RowG.made (w : World) (T : TypeId) (arr : Array Value) (G : Nat → Value) (h : ∀ p, p < arr.size → arr[p]? = some (G p)) : RowG (w.alloc (.cells arr T)) w.heap.size T arr.size G :=
  ⟨arr, heap_alloc_new w _, rfl, h⟩

/-- Nothing but block g has changed; no block has gone or come. -/
def Only (g : Nat) (w w' : World) : Prop := w'.heap.size = w.heap.size ∧ (∀ k, k ≠ g → w'.heap[k]? = w.heap[k]?) ∧ ∀ B, B ≤ g → Below B w w'
theorem Only.refl (g : Nat) (w : World) : Only g w w := ⟨rfl, fun _ _ => rfl, fun B _ => Below.refl B w⟩
theorem Only.drew {g : Nat} {w w' : World} (h : Only g w w') : Only g w w'.drew := ⟨h.1, h.2.1, fun B hB => (h.2.2 B hB).drew⟩
theorem Only.set {g : Nat} {w w' : World} (h : Only g w w') (p : Nat) (v : Value) : Only g w (w'.setCell ⟨g, p, none⟩ v) :=
  ⟨by rw [← h.1]; simp, fun k hk => (Below.heap_setCell _ _ _ _ (by exact hk)).trans (h.2.1 k hk), fun B hB => (h.2.2 B hB).setCell (by exact hB) _⟩
theorem Only.row {g g' N : Nat} {T : TypeId} {G : Nat → Value} {w w' : World} (h : Only g w w') (r : RowG w g' T N G) (hg : g' ≠ g) : RowG w' g' T N G := r.of_block (h.2.1 g' hg)
theorem Only.trans {g : Nat} {a b c : World} (h : Only g a b) (k : Only g b c) : Only g a c := ⟨k.1.trans h.1, fun i hi => (k.2.1 i hi).trans (h.2.1 i hi), fun B hB => (h.2.2 B hB).trans (k.2.2 B hB)⟩

/-- The integers of one element. -/
structure It where
  d : Value
  l : Int

def It.fld (m : It) : Nat → Value
  | 0 => m.d
  | _ => .int .i32 m.l
def It.flat (F : Nat → It) (p : Nat) : Value := (F (p / 2)).fld (p % 2)
theorem It.flat_at (F : Nat → It) (i c : Nat) (hc : c < 2) : It.flat F (i * 2 + c) = (F i).fld c := by
  unfold It.flat
  rw [show (i * 2 + c) / 2 = i by omega, show (i * 2 + c) % 2 = c by omega]
theorem It.flat_congr {n : Nat} {F F' : Nat → It} (e : ∀ q, q < n → F q = F' q) : ∀ p, p < n * 2 → It.flat F p = It.flat F' p := fun p hp => by unfold It.flat; rw [e (p / 2) (by omega)]
/-- The cells of element i. -/
theorem It.cells {w : World} {g n : Nat} {F : Nat → It} (h : RowG w g 30 (n * 2) (It.flat F)) {i : Nat} (hi : i < n) :
    w.cell? ⟨g, i * 2, none⟩ = some ((F i).d) ∧ w.cell? ⟨g, i * 2 + 1, none⟩ = some (.int .i32 (F i).l) := by
  have k : ∀ c, c < 2 → w.cell? ⟨g, i * 2 + c, none⟩ = some ((F i).fld c) := fun c hc => by rw [← It.flat_at F i c hc]; exact h.cell (by omega)
  exact ⟨k 0 (by omega), k 1 (by omega)⟩
/-- Element i is overwritten by m. -/
def It.put (w : World) (g i : Nat) (m : It) : World :=
  ((w.setCell ⟨g, i * 2, none⟩ (m.d)).setCell ⟨g, i * 2 + 1, none⟩ (.int .i32 m.l))
theorem It.put_row {w : World} {g n : Nat} {F : Nat → It} (h : RowG w g 30 (n * 2) (It.flat F)) (i : Nat) (m : It) : RowG (It.put w g i m) g 30 (n * 2) (It.flat fun q => if q = i then m else F q) := by
  refine RowG.ext ((h.set _ _).set _ _) fun p _ => ?_
  simp only [It.flat]
  by_cases hp : p / 2 = i
  · rw [if_pos hp]
    have hc : p % 2 = 0 ∨ p % 2 = 1 := by omega
    rcases hc with hc | hc
    · rw [hc, if_neg (by omega), if_pos (by omega)]; rfl
    · rw [hc, if_pos (by omega)]; rfl
  · rw [if_neg hp, if_neg (by omega), if_neg (by omega)]
theorem It.put_only (w : World) (g i : Nat) (m : It) : Only g w (It.put w g i m) := (((Only.refl g w).set _ _).set _ _)
def It.agg (m : It) : Value := .agg #[m.d, .int .i32 m.l]
def It.mz (n : Nat) : Array Value := madeCells #[.nilIface, .int .i32 0] (n * 2)
theorem It.mz_size (n : Nat) : (It.mz n).size = n * 2 := by simp [It.mz, size_madeCells]
theorem It.mz_get (n p : Nat) (hp : p < n * 2) : (It.mz n)[p]? = some (It.flat (fun _ => ⟨.nilIface, 0⟩) p) := by
  have hc : p % 2 = 0 ∨ p % 2 = 1 := by omega
  simp only [It.mz, madeCells, It.flat]
  rw [Array.getElem?_map, Array.getElem?_range, if_pos hp]
  simp only [Option.map_some, List.size_toArray, List.length_cons, List.length_nil, Nat.zero_add, Nat.reduceAdd]
  rcases hc with hc | hc <;> rw [hc] <;> rfl
theorem It.mz_row (n : Nat) (w : World) : RowG (w.alloc (.cells (It.mz n) 30)) w.heap.size 30 (n * 2) (It.flat fun _ => ⟨.nilIface, 0⟩) := by
  have h := RowG.made w 30 (It.mz n) (It.flat fun _ => ⟨.nilIface, 0⟩) (fun p hp => It.mz_get n p (by rw [It.mz_size] at hp; exact hp))
  rw [It.mz_size] at h
  exact h

theorem It.info : (Try.prog.info? 30).map (fun i => (i.zero.map (·.cells), i.size, i.bytes)) = some (some #[.nilIface, .int .i32 0], 2, 24) := by kernel_rfl
theorem It.made (n : Nat) (hn : n ≤ 65536) (w : World) : (Instr.makeSlice 198 (.int .i64 n) (.int .i64 n)).run Try.prog w = .ok (.slice (some ⟨w.heap.size, 0, none⟩) n n) (w.alloc (.cells (It.mz n) 30)) := by
  obtain ⟨i, hi, hz⟩ := Option.map_eq_some_iff.1 It.info
  simp only [Prod.mk.injEq] at hz
  obtain ⟨h1, h2, h3⟩ := hz
  obtain ⟨z, hz, hzc⟩ := Option.map_eq_some_iff.1 h1
  have hr := run_make (P := Try.prog) w 198 30 i z Try.underlying198 hi hz .i64 .i64 n n (by omega) (Int.le_refl _) (by rw [h3]; omega) (by omega)
  simp only [Int.toNat_natCast, h2, hzc] at hr
  exact hr


def Items (wr : World) (r k d : Nat) (F : Nat → It) (s : Nat → Bool) : Prop := ∀ j, j < k → ∃ T b, (F j).d = .iface T (.pointer (some ⟨b, 0, none⟩)) ∧ Sf (fun q => q ≠ r + 1 ∧ q ≠ r) wr d T b (s j)
structure ResC (w : World) (r : Nat) : Prop where
  lt : r < w.heap.size
  c0 : w.cell? ⟨r, 0, none⟩ = some .nilIface
  c1 : w.cell? ⟨r, 1, none⟩ = some (.int .i32 0)
  f0 : w.frozen? ⟨r, 0, none⟩ = false
  f1 : w.frozen? ⟨r, 1, none⟩ = false
theorem ResC.of_block {w w' : World} {r : Nat} (h : ResC w r) (hs : w.heap.size ≤ w'.heap.size) (e : w'.heap[r]? = w.heap[r]?) : ResC w' r :=
  ⟨Nat.lt_of_lt_of_le h.lt hs, (World.cell?_of_block (a := ⟨r, 0, none⟩) e).trans h.c0, (World.cell?_of_block (a := ⟨r, 1, none⟩) e).trans h.c1, (World.frozen?_of_block (a := ⟨r, 0, none⟩) e).trans h.f0, (World.frozen?_of_block (a := ⟨r, 1, none⟩) e).trans h.f1⟩
/-- The loop that fills an array: the block r + 1 holds the items, block r waits for the result. -/
structure Hd (w0 wr : World) (r n k d : Nat) (F : Nat → It) (s : Nat → Bool) : Prop where
  row : RowG wr (r + 1) 30 (n * 2) (It.flat F)
  its : Items wr r k d F s
  res : ResC wr r
  bel : Below w0.heap.size w0 wr
  le : w0.heap.size ≤ r
theorem Hd.below {w0 wr w2 : World} {r n k d : Nat} {F : Nat → It} {s : Nat → Bool} (h : Hd w0 wr r n k d F s) (hb : Below wr.heap.size wr w2) : Hd w0 w2 r n k d F s := by
  obtain ⟨h1, h2, h3, h4, h5⟩ := h
  refine ⟨h1.below hb h1.lt, fun j hj => ?_, h3.of_block hb.size (hb.block r h3.lt), h4.trans (hb.mono h4.size), h5⟩
  obtain ⟨T, b, e, hs⟩ := h2 j hj
  exact ⟨T, b, e, hs.below hb⟩
theorem Hd.drew {w0 wr : World} {r n k d : Nat} {F : Nat → It} {s : Nat → Bool} (h : Hd w0 wr r n k d F s) : Hd w0 wr.drew r n k d F s :=
  h.below ⟨rfl, rfl, rfl, Nat.le_refl _, fun _ _ => rfl⟩
theorem Hd.put {w0 wr : World} {r n k d : Nat} {F : Nat → It} {s : Nat → Bool} (h : Hd w0 wr r n k d F s) {T b : Nat} {l : Int} (hS : Sf (fun q => q ≠ r + 1 ∧ q ≠ r) wr d T b (s k)) :
    Hd w0 (It.put wr (r + 1) k ⟨.iface T (.pointer (some ⟨b, 0, none⟩)), l⟩) r n (k + 1) d (fun q => if q = k then ⟨.iface T (.pointer (some ⟨b, 0, none⟩)), l⟩ else F q) s := by
  obtain ⟨h1, h2, h3, h4, h5⟩ := h
  have ho := It.put_only wr (r + 1) k ⟨.iface T (.pointer (some ⟨b, 0, none⟩)), l⟩
  refine ⟨It.put_row h1 k _, fun j hj => ?_, h3.of_block (by rw [ho.1]; exact Nat.le_refl _) (ho.2.1 r (by omega)), h4.trans (ho.2.2 _ (by omega)), h5⟩
  have kp : ∀ {T b : Nat} {v : Bool}, Sf (fun q => q ≠ r + 1 ∧ q ≠ r) wr d T b v → Sf (fun q => q ≠ r + 1 ∧ q ≠ r) (It.put wr (r + 1) k ⟨.iface T (.pointer (some ⟨b, 0, none⟩)), l⟩) d T b v := fun h => h.keep (fun q _ hq => (It.put_only _ _ _ _).2.1 q hq.1)
  by_cases e : j = k
  · subst e
    refine ⟨T, b, by simp, hS.keep (fun q _ hq => ho.2.1 q hq.1)⟩
  · obtain ⟨T', b', e', hs⟩ := h2 j (by omega)
    refine ⟨T', b', by simp only [if_neg e]; exact e', hs.keep (fun q _ hq => ho.2.1 q hq.1)⟩
theorem Hd.fin {w0 wr w' : World} {r n d : Nat} {F : Nat → It} {s : Nat → Bool} {v : Bool} (h : Hd w0 wr r n n d F s) (hn : n ≤ 65536) (e : ∀ q, q < wr.heap.size → q ≠ r → w'.heap[q]? = wr.heap[q]?)
    (hc : w'.cell? ⟨wr.heap.size, 0, none⟩ = some (.slice (some ⟨r + 1, 0, none⟩) n n)) (hv : v = true ↔ ∀ i, i < n → s i = true) : Sf (fun _ => True) w' (d + 1) 200 wr.heap.size v := by
  obtain ⟨h1, h2, h3, h4, h5⟩ := h
  have hr := h3.lt
  have hg := h1.lt
  refine .inr ⟨rfl, trivial, _, n, n, s, hc, hn, fun h0 => ⟨r + 1, rfl, trivial, fun i hi => ?_⟩, hv⟩
  obtain ⟨T, b, e1, hs⟩ := h2 i hi
  obtain ⟨c0, c1⟩ := It.cells h1 hi
  rw [e1] at c0
  have k := e (r + 1) hg (by omega)
  exact ⟨T, b, _, (World.cell?_of_block (a := ⟨r + 1, i * 2, none⟩) k).trans c0, (World.cell?_of_block (a := ⟨r + 1, i * 2 + 1, none⟩) k).trans c1, (hs.keep (fun q hq hp => e q hq hp.2)).imp (fun _ _ _ => trivial)⟩
def is (c : Int) (sn : Bool) : Bool := decide (c % 13 ≤ 6) || (decide (c % 13 = 12) && sn)
def allS (s : Nat → Bool) (n : Nat) : Bool := (List.range n).all s
theorem allS_iff (s : Nat → Bool) (n : Nat) : allS s n = true ↔ ∀ i, i < n → s i = true := by simp [allS]
theorem allS_no {s : Nat → Bool} {n k : Nat} (hk : k < n) (h : s k = false) : allS s n = false := by
  cases e : allS s n
  · rfl
  · rw [allS_iff] at e; rw [e k hk] at h; cases h
theorem fs34 (w : World) (c : Int) (h0 : 0 ≤ c) (h1 : c < 256) : Calls Try.prog 34 #[.int .u8 c] w fun e w' => e = .returned (.bool (fs c)) ∧ w = w' := by
  have hm : 0 ≤ c % 13 ∧ c % 13 < 13 := by omega
  by_cases h6 : c % 13 ≤ 6
  · have HE := Lib.hid (show fs c = true by simp [fs, h6])
    go_enter Try.func34, Try.ntmps34
    go_wp2_with fail
    go_ret
    exact ⟨by rw [HE.out]; rfl, rfl⟩
  · have h6' : ¬ c % 13 ≤ 6 := h6
    by_cases h12 : c % 13 = 12
    · have HE := Lib.hid (show fs c = true by simp [fs, h12])
      have e1 : (c % 13 == 12) = true := by simp [h12]
      clear h12
      go_enter Try.func34, Try.ntmps34
      go_wp2_with fail
      go_ret
      exact ⟨by rw [HE.out]; rfl, rfl⟩
    · have HE := Lib.hid (show fs c = false by simp [fs, h12]; omega)
      have e1 : (c % 13 == 12) = false := by simp [h12]
      clear h12
      go_enter Try.func34, Try.ntmps34
      go_wp2_with fail
      go_ret
      exact ⟨by rw [HE.out]; rfl, rfl⟩
theorem is23 (w : World) (c : Int) (h0 : 0 ≤ c) (h1 : c < 256) (sn : Bool) : Calls Try.prog 23 #[.int .u8 c, .bool sn] w fun e w' => e = .returned (.bool (is c sn)) ∧ w = w' := by
  have hm : 0 ≤ c % 13 ∧ c % 13 < 13 := by omega
  by_cases h6 : c % 13 ≤ 6
  · have HE := Lib.hid (show is c sn = true by simp [is, h6])
    go_enter Try.func23, Try.ntmps23
    go_wp2_with fail
    go_ret
    exact ⟨by rw [HE.out]; rfl, rfl⟩
  · by_cases h12 : c % 13 = 12
    · have HE := Lib.hid (show is c sn = sn by simp [is, h12])
      have e1 : (c % 13 == 12) = true := by simp [h12]
      clear h12
      go_enter Try.func23, Try.ntmps23
      go_wp2_with fail
      go_ret
      exact ⟨by rw [HE.out]; rfl, rfl⟩
    · have HE := Lib.hid (show is c sn = false by simp [is, h12]; omega)
      have e1 : (c % 13 == 12) = false := by simp [h12]
      clear h12
      go_enter Try.func23, Try.ntmps23
      go_wp2_with fail
      go_ret
      exact ⟨by rw [HE.out]; rfl, rfl⟩
/-- A slice of bytes that a helper reads. -/
def U8s (w : World) (a : Option Addr) (n : Nat) (Z : Nat → Int) : Prop := Row w a n (fun i => .int .u8 (Z i)) ∧ ∀ i, 0 ≤ Z i ∧ Z i < 256
set_option maxHeartbeats 1000000 in
theorem all20 (w : World) (a : Option Addr) (n cap : Nat) (Z : Nat → Int) (hn : n ≤ 65536) (h : U8s w a n Z) : Calls Try.prog 20 #[.slice a n cap] w fun e w' => e = .returned (.bool (allS (fun i => fs (Z i)) n)) ∧ w = w' := by
  have HU := Lib.hid h
  clear h
  go_enter Try.func20, Try.ntmps20
  go_wp2_with fail
  go_loop [3] (fun i => ∃ k : Nat, k ≤ n ∧ i = .int .i64 k ∧ ∀ j, j < k → fs (Z j) = true) (fun i => n - (intOf i).toNat)
  case atStart => exact ⟨0, by omega, rfl, fun j hj => by omega⟩
  case round =>
    obtain ⟨k, hk, rfl, hall⟩ := hrel
    have HA := Lib.hid hall
    clear hall
    by_cases hlt : k < n
    · obtain ⟨b, off, rfl, hcell⟩ := HU.out.1 (by omega)
      have c1 := hcell k hlt
      obtain ⟨z0, z1⟩ := HU.out.2 k
      clear hcell
      go_wp2_with fail
      refine (fs34 _ _ z0 z1).mono ?_
      rintro e w' ⟨rfl, rfl⟩
      cases hS : fs (Z k)
      · have HX := Lib.hid (allS_no (s := fun i => fs (Z i)) hlt hS)
        clear hS
        go_simp
        go_wp2_with fail
        go_ret
        exact ⟨by rw [HX.out]; rfl, rfl⟩
      · have HX := Lib.hid hS
        clear hS
        go_simp
        go_wp2_with fail
        go_round
        case rel => exact ⟨k + 1, by omega, by go_num, fun j hj => by
          by_cases e : j = k
          · subst e; exact HX.out
          · exact HA.out j (by omega)⟩
        case measure => simp [intOf]; omega
    · obtain rfl : k = n := by omega
      go_wp2_with fail
      go_ret
      exact ⟨by rw [(allS_iff _ _).2 HA.out]; rfl, rfl⟩
def CountP (n : Nat) (w : World) (e : Ending) (w' : World) : Prop := ∃ c : Nat, c ≤ n ∧ e = .returned (.int .i64 c) ∧ w = w'
set_option maxHeartbeats 1000000 in
theorem count18 (w : World) (a : Option Addr) (n cap : Nat) (Z : Nat → Int) (hn : n ≤ 65536) (h : U8s w a n Z) : Calls Try.prog 18 #[.slice a n cap] w (CountP n w) := by
  have HU := Lib.hid h
  clear h
  go_enter Try.func18, Try.ntmps18
  go_wp2_with fail
  go_loop [3, 4] (fun x i => ∃ k c : Nat, k ≤ n ∧ c ≤ k ∧ i = .int .i64 k ∧ x = .int .i64 c) (fun _ i => n - (intOf i).toNat)
  case atStart => exact ⟨0, 0, by omega, by omega, rfl, rfl⟩
  case round =>
    obtain ⟨k, c, hk, hc, rfl, rfl⟩ := hrel
    by_cases hlt : k < n
    · obtain ⟨b, off, rfl, hcell⟩ := HU.out.1 (by omega)
      have c1 := hcell k hlt
      obtain ⟨z0, z1⟩ := HU.out.2 k
      clear hcell
      by_cases h12 : Z k % 13 = 12
      · have e1 : (Z k % 13 == 12) = true := by simp [h12]
        clear h12
        go_wp2_with fail
        go_round
        case rel => exact ⟨k + 1, c + 1, by omega, by omega, by go_num, by go_num⟩
        case measure => simp [intOf]; omega
      · have e1 : (Z k % 13 == 12) = false := by simp [h12]
        clear h12
        go_wp2_with fail
        go_round
        case rel => exact ⟨k + 1, c, by omega, by omega, by go_num, rfl⟩
        case measure => simp [intOf]; omega
    · obtain rfl : k = n := by omega
      go_wp2_with fail
      go_ret
      exact ⟨c, hc, rfl, rfl⟩
def ArP (d : Nat) (w : World) (s : Bool) (e : Ending) (w' : World) : Prop := ∃ b, e = .returned (.agg #[.iface 200 (.pointer (some ⟨b, 0, none⟩)), .int .i32 0]) ∧ Sf (fun _ => True) w' d 200 b s ∧ Below w.heap.size w w'
set_option maxHeartbeats 2000000 in
theorem arr19 (w : World) (a : Option Addr) (n cap : Nat) (Z : Nat → Int) (hn : n ≤ 65536) (h : U8s w a n Z) : Calls Try.prog 19 #[.slice a n cap] w (ArP 2 w (allS (fun i => fs (Z i)) n)) := by
  have HU := Lib.hid h
  clear h
  have hmk := It.made n hn
  go_enter Try.func19, Try.ntmps19
  go_wp2_with fail
  clear hmk
  have hst : Hd w ((w.alloc (.cells #[.nilIface, .int .i32 0] 30)).alloc (.cells (It.mz n) 30)) w.heap.size n 0 1 (fun _ => ⟨.nilIface, 0⟩) (fun i => fs (Z i)) := by
    refine ⟨?_, fun j hj => by omega, ⟨by simp; omega, by simp, by simp, by simp, by simp⟩, ((Below.refl _ _).alloc (Nat.le_refl _) _).alloc (by simp) _, Nat.le_refl _⟩
    have := It.mz_row n (w.alloc (.cells #[.nilIface, .int .i32 0] 30))
    simpa using this
  have HST := Lib.hid hst
  clear hst
  go_loopw [4] (fun i wr => ∃ (k : Nat) (F : Nat → It), k ≤ n ∧ i = .int .i64 k ∧ Hd w wr w.heap.size n k 1 F (fun i => fs (Z i))) (fun i _ => n - (intOf i).toNat)
  case atStart => exact ⟨0, _, by omega, rfl, HST.out⟩
  case round =>
    clear HST
    obtain ⟨k, F, hk, rfl, hH⟩ := hrel
    have HH := Lib.hid hH
    clear hH
    by_cases hlt : k < n
    · obtain ⟨b, off, rfl, hcell⟩ := HU.out.1 (by omega)
      have hcw := hcell k hlt
      have hbl := block_lt_of_cell hcw
      simp only at hbl
      have c1 := (HH.out.bel.cell (p := ⟨b, off + k, none⟩) hbl).trans hcw
      obtain ⟨z0, z1⟩ := HU.out.2 k
      clear hcell hcw
      go_wp2_with fail
      refine (flat33 (Z k) z0 z1 _ (fun q => q ≠ w.heap.size + 1 ∧ q ≠ w.heap.size) (fun q hq => by have := HH.out.row.lt; have := HH.out.res.lt; constructor <;> omega) 0).mono ?_
      rintro e w2 ⟨T, b2, rfl, hS, hb⟩
      have HH2 := Lib.hid (HH.out.below hb)
      obtain ⟨d0, d1⟩ := It.cells HH2.out.row hlt
      have g0 := HH2.out.row.frozen (k * 2)
      have g1 := HH2.out.row.frozen (k * 2 + 1)
      have HS2 := Lib.hid hS
      clear hS hb c1
      go_wp2_with fail
      go_roundw
      case rel => exact ⟨k + 1, _, by omega, by go_num, HH2.out.put HS2.out⟩
      case measure => simp [intOf]; omega
    · obtain rfl : k = n := by omega
      obtain ⟨hr, r0, r1, r2, r3⟩ := HH.out.res
      rename World => wr
      have hne : w.heap.size ≠ wr.heap.size := by omega
      go_wp2_with fail
      refine bodyPost_ret (v := .agg #[.iface 200 (.pointer (some ⟨wr.heap.size, 0, none⟩)), .int .i32 0]) (by simp [results, Try.results19, go_sem, r0, r1, r2, r3, hr]) rfl ⟨wr.heap.size, rfl, ?_, ?_⟩
      · refine HH.out.fin hn (fun q hq hr' => ?_) ?_ (allS_iff _ _)
        · rw [Below.heap_alloc _ _ _ (by simpa [World.setCell] using hq), Below.heap_setCell _ _ _ _ (by exact hr'), Below.heap_setCell _ _ _ _ (by exact hr')]
        · have hsz : ∀ A v B v', ((wr.setCell A v).setCell B v').heap.size = wr.heap.size := fun _ _ _ _ => by simp [World.setCell]
          have h := fun A v B v' o => heap_alloc_new ((wr.setCell A v).setCell B v') o
          simp only [hsz] at h
          exact (cell_of_row _ wr.heap.size 0 _ _ _ (h _ _ _ _ _)).trans rfl
      · exact ((HH.out.bel.setCell (by first | exact Nat.le_refl _ | exact Nat.le_succ _) _).setCell (by first | exact Nat.le_refl _ | exact Nat.le_succ _) _).alloc (by simpa [World.setCell] using HH.out.bel.size) _
def ItP (P : Nat → Prop) (w : World) (s : Bool) (e : Ending) (w' : World) : Prop := ∃ T b l, e = .returned (.agg #[.iface T (.pointer (some ⟨b, 0, none⟩)), .int .i32 l]) ∧ Sf P w' 2 T b s ∧ Below w.heap.size w w'
set_option maxHeartbeats 2000000 in
theorem item22 (w : World) (c : Int) (h0 : 0 ≤ c) (h1 : c < 256) (P : Nat → Prop) (hP : ∀ q, w.heap.size ≤ q → P q) (bn : Nat) (ln : Int) (sn : Bool) (hs : Sf P w 2 200 bn sn) :
    Calls Try.prog 22 #[.int .u8 c, .agg #[.iface 200 (.pointer (some ⟨bn, 0, none⟩)), .int .i32 ln]] w (ItP P w (is c sn)) := by
  have HS := Lib.hid hs
  clear hs
  by_cases h12 : c % 13 = 12
  · have HE := Lib.hid (show is c sn = sn by simp [is, h12])
    have e1 : (c % 13 == 12) = true := by simp [h12]
    clear h12
    go_enter Try.func22, Try.ntmps22
    go_wp2_with fail
    refine bodyPost_ret (v := .agg #[.iface 200 (.pointer (some ⟨bn, 0, none⟩)), .int .i32 ln]) (by simp [results, Try.results22, go_sem]) rfl ⟨200, bn, ln, rfl, ?_, ?_⟩
    · rw [HE.out]
      exact HS.out.below (by first | exact ((Below.refl _ _).alloc (Nat.le_refl _) _).alloc (by simp) _ | exact ((((Below.refl _ _).alloc (Nat.le_refl _) _).alloc (by simp) _).setCell (by simp) _).setCell (by simp) _)
    · first | exact ((Below.refl _ _).alloc (Nat.le_refl _) _).alloc (by simp) _ | exact ((((Below.refl _ _).alloc (Nat.le_refl _) _).alloc (by simp) _).setCell (by simp) _).setCell (by simp) _
  · have HE := Lib.hid (show is c sn = fs c by
      unfold is fs
      rw [Bool.eq_iff_iff]; simp [h12])
    have e1 : (c % 13 == 12) = false := by simp [h12]
    clear h12
    go_enter Try.func22, Try.ntmps22
    go_wp2_with fail
    refine (flat33 c h0 h1 _ (fun q => P q ∧ q ≠ w.heap.size + 1) (fun q hq => by simp at hq; exact ⟨hP q (by omega), by omega⟩) 1).mono ?_
    rintro e w2 ⟨T, b2, rfl, hS, hb⟩
    have hz : w.heap.size + 1 < w2.heap.size := by have := hb.size; simp at this; omega
    have r0 : w2.cell? ⟨w.heap.size + 1, 0, none⟩ = some .nilIface := (hb.cell (p := ⟨w.heap.size + 1, 0, none⟩) (by simp)).trans (by simp)
    have r1 : w2.cell? ⟨w.heap.size + 1, 1, none⟩ = some (.int .i32 0) := (hb.cell (p := ⟨w.heap.size + 1, 1, none⟩) (by simp)).trans (by simp)
    have r2 : w2.frozen? ⟨w.heap.size + 1, 0, none⟩ = false := (hb.frozen (p := ⟨w.heap.size + 1, 0, none⟩) (by simp)).trans (by simp)
    have r3 : w2.frozen? ⟨w.heap.size + 1, 1, none⟩ = false := (hb.frozen (p := ⟨w.heap.size + 1, 1, none⟩) (by simp)).trans (by simp)
    have HB := Lib.hid ((((Below.refl w.heap.size w).alloc (Nat.le_refl _) (.cells #[.iface 200 (.pointer (some ⟨bn, 0, none⟩)), .int .i32 ln] 30)).alloc (by simp) (.cells #[.nilIface, .int .i32 0] 30)).trans (hb.mono (by simp; omega)))
    have HS2 := Lib.hid hS
    clear hS hb
    go_wp2_with fail
    refine bodyPost_ret (v := .agg #[.iface T (.pointer (some ⟨b2, 0, none⟩)), .int .i32 0]) (by simp [results, Try.results22, go_sem, r0, r1, r2, r3]) rfl ⟨T, b2, 0, rfl, ?_, ?_⟩
    · rw [HE.out]
      refine (HS2.out.keep (fun q hq hp => ?_)).imp (fun q _ hp => hp.1)
      rw [Below.heap_setCell _ _ _ _ (by exact hp.2), Below.heap_setCell _ _ _ _ (by exact hp.2)]
    · exact ((HB.out).setCell (by simp) _).setCell (by simp) _
end Go.Proofs.Ythhlioepgfjknaa.sf
