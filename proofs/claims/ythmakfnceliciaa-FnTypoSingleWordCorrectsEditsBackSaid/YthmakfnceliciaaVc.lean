/-
  The typo detector of short words walked.
-/
import Derived.Test.YthmakfnceliciaaVb
import Derived.Laws.MakeOwn
import Derived.OneCell
import Derived.IntWalk
namespace Go.Proofs.Ythmakfnceliciaa.ty
open Go.ChangeShapes Go.WideShapes Go.ChangeAt Go.RowKit Go.Deep Go.Proofs.Ythmakfnceliciaa.mk Go.Proofs.Ythmakfnceliciaa.u8
set_option linter.unusedVariables false
set_option linter.unusedSimpArgs false
/-- A slice of n elements, V i at place i; of an empty one nothing is said. -/
def Row (w : World) (a : Option Addr) (n : Nat) (V : Nat → Value) : Prop := 0 < n → ∃ b off, a = some ⟨b, off, none⟩ ∧ ∀ i, i < n → w.cell? ⟨b, off + i, none⟩ = some (V i)
theorem Row.below {w w' : World} {a : Option Addr} {n : Nat} {V : Nat → Value} (h : Row w a n V) (hb : Below w.heap.size w w') : Row w' a n V := by
  intro h0
  obtain ⟨b, off, rfl, hc⟩ := h h0
  refine ⟨b, off, rfl, fun i hi => ?_⟩
  have h1 := hc i hi
  exact (hb.cell (p := ⟨b, off + i, none⟩) (block_lt_of_cell h1)).trans h1
theorem Row.of_cells {w : World} {a : Addr} {n m : Nat} {V : Nat → Value} (hn : n ≤ m) (h : ∀ i, i < m → w.cell? (a.add i) = some (V i)) : Row w (some a) n V := by
  intro h0
  obtain ⟨b, off, spot⟩ := a
  have hspot : spot = none := by simpa [Addr.add] using World.cell?_spot (h 0 (by omega))
  subst hspot
  exact ⟨b, off, rfl, fun j hj => by rw [← Go.WideShapes.add_plain]; exact h j (by omega)⟩
/-- What a walk is told of a slice of strings that came in. -/
def IsStrs (w : World) (a : Option Addr) (len cap : Nat) (Z : Nat → ByteArray) : Prop :=
  (a = none → len = 0 ∧ cap = 0) ∧ len ≤ maxLen ∧ Row w a len (fun i => .string (Z i)) ∧ ∀ i, (Z i).size ≤ maxLen
theorem IsStrs.nil (w : World) : IsStrs w none 0 0 (fun _ => ByteArray.empty) := ⟨fun _ => ⟨rfl, rfl⟩, by unfold maxLen; omega, fun h => by omega, fun i => by simp⟩
theorem IsStrs.mk {w : World} {a : Addr} {len cap : Nat} {zs : List ByteArray} (hl : len ≤ cap) (hm : cap ≤ maxLen) (hz : zs.length = cap)
    (h : ∀ i, i < zs.length → w.cell? (a.add i) = some (.string (zs.getD i ByteArray.empty))) (hwz : ∀ s ∈ zs, s.size ≤ maxLen) : IsStrs w (some a) len cap (fun i => zs.getD i ByteArray.empty) := by
  refine ⟨by simp, by omega, Row.of_cells (V := fun i => .string (zs.getD i ByteArray.empty)) (by omega) h, fun i => ?_⟩
  show (zs.getD i ByteArray.empty).size ≤ maxLen
  rw [List.getD_eq_getElem?_getD]
  cases e : zs[i]? with
  | none => simp
  | some s => exact hwz s (List.mem_of_getElem? e)
/-- n cells, of which the first k are V's and the rest z. -/
def fillA (V : Nat → Value) (z : Value) (k n : Nat) : Array Value := (Array.range n).map (fun i => if i < k then V i else z)
theorem size_fillA (V : Nat → Value) (z : Value) (k n : Nat) : (fillA V z k n).size = n := by simp [fillA]
theorem get_fillA (V : Nat → Value) (z : Value) (k n i : Nat) (h : i < n) : (fillA V z k n)[i]? = some (if i < k then V i else z) := by
  simp [fillA, h]
theorem fillA_zero (V : Nat → Value) (z : Value) (n : Nat) : madeCells #[z] n = fillA V z 0 n := by
  simp [fillA, madeCells, Nat.mod_one]
theorem fillA_step (V : Nat → Value) (z : Value) (k n : Nat) (h : k < n) : (fillA V z k n).setIfInBounds k (V k) = fillA V z (k + 1) n := by
  apply Array.ext
  · simp [size_fillA]
  · intro i h1 h2
    have hi : i < n := by simpa [size_fillA] using h2
    rw [Array.getElem_setIfInBounds (by simpa [size_fillA] using hi)]
    simp only [fillA, Array.getElem_map, Array.getElem_range]
    by_cases hk : k = i
    · subst hk; simp
    · rw [if_neg hk]
      by_cases h3 : i < k
      · rw [if_pos h3, if_pos (by omega)]
      · rw [if_neg h3, if_neg (by omega)]
theorem fillA_full (V : Nat → Value) (z : Value) (n : Nat) : fillA V z n n = (Array.range n).map V := by
  apply Array.ext
  · simp [fillA]
  · intro i h1 h2
    have hi : i < n := by simpa using h2
    simp [fillA, hi]

/-- The cells of a slice: V i at place i; of an empty slice nothing is said. -/
def Cells (w : World) (a : Addr) (n : Nat) (V : Nat → Value) : Prop := (0 < n → a.spot = none) ∧ ∀ i, i < n → w.cell? ⟨a.block, a.off + i, none⟩ = some (V i)
theorem Cells.below {w w' : World} {a : Addr} {n : Nat} {V : Nat → Value} (h : Cells w a n V) (hb : Below w.heap.size w w') : Cells w' a n V := by
  refine ⟨h.1, fun i hi => ?_⟩
  have h1 := h.2 i hi
  have hlt : a.block < w.heap.size := block_lt_of_cell (a := ⟨a.block, a.off + i, none⟩) h1
  exact (hb.cell (p := ⟨a.block, a.off + i, none⟩) hlt).trans h1
theorem Cells.alloc {w : World} {a : Addr} {n : Nat} {V : Nat → Value} (h : Cells w a n V) (o : Obj) : Cells (w.alloc o) a n V := h.below ((Below.refl _ _).alloc (Nat.le_refl _) _)
theorem Cells.made (w : World) (n : Nat) (V : Nat → Value) (e : TypeId) : Cells (w.alloc (.cells ((Array.range n).map V) e)) ⟨w.heap.size, 0, none⟩ n V := by
  refine ⟨fun _ => rfl, fun i hi => ?_⟩
  have h := cell_of_row (w.alloc (.cells ((Array.range n).map V) e)) w.heap.size i _ _ _ (heap_alloc_new w _)
  simp only [Nat.zero_add]
  rw [h]
  simp [hi]

theorem info9 : (Try.prog.info? 9).map (fun i => (i.zero, i.size, i.bytes)) = some (some (Value.string ByteArray.empty), 1, 16) := by kernel_rfl

set_option maxHeartbeats 1000000 in
theorem cloneS_main (w : World) (b off : Nat) (len cap : Nat) (V : Nat → ByteArray) (hl : len ≤ 1048576) (hc : Cells w ⟨b, off, none⟩ len fun i => Value.string (V i)) :
    Calls Try.prog 8 #[.slice (some ⟨b, off, none⟩) len cap] w fun e w' => e = .returned (.slice (some ⟨w.heap.size, 0, none⟩) len len) ∧
      w.alloc (.cells ((Array.range len).map fun i => Value.string (V i)) 9) = w' := by
  have HC := Lib.hid hc
  clear hc
  have hmk := run_make_row' (P := Try.prog) 22 9 (Value.string ByteArray.empty) 16 Try.underlying22 info9 rfl .i64 .i64 len (by omega) (by omega) w
  rw [fillA_zero (fun i => Value.string (V i))] at hmk
  have hnil := fun (w : World) (a : Option Addr) (n c : Nat) => Lib.run_eql_slice_nil (P := Try.prog) w 22 9 a n c 0 0 Try.underlying22
  go_enter Try.func8, Try.ntmps8
  go_wp2
  go_loopw [4] (fun i wr => ∃ k : Nat, k ≤ len ∧ i = .int .i64 k ∧ w.alloc (.cells (fillA (fun i => Value.string (V i)) (Value.string ByteArray.empty) k len) 9) = wr) (fun i _ => len - (intOf i).toNat)
  case atStart => exact ⟨0, by omega, rfl, rfl⟩
  case round =>
    obtain ⟨k, hk, rfl, rfl⟩ := hrel
    clear hmk
    by_cases hlt : k < len
    · have c1 : w.cell? ⟨b, off + k, none⟩ = some (Value.string (V k)) := HC.out.2 k hlt
      have hbl : b < w.heap.size := block_lt_of_cell (a := ⟨b, off + k, none⟩) c1
      have c2 : (fillA (fun i => Value.string (V i)) (Value.string ByteArray.empty) k len)[k]? = some (Value.string ByteArray.empty) := by rw [get_fillA _ _ _ _ _ hlt, if_neg (by omega)]
      have HF := Lib.hid (fillA_step (fun i => Value.string (V i)) (Value.string ByteArray.empty) k len hlt)
      go_wp2
      go_roundw
      case rel => exact ⟨k + 1, by omega, by go_num, by rw [← HF.out]⟩
      case measure => simp [intOf]; omega
    · obtain rfl : k = len := by omega
      rw [fillA_full]
      go_wp2
      go_ret
      exact ⟨rfl, rfl⟩

set_option maxHeartbeats 1000000 in
theorem cloneS_zero (w : World) (x : Addr) (cap : Nat) :
    Calls Try.prog 8 #[.slice (some x) 0 cap] w fun e w' => e = .returned (.slice (some ⟨w.heap.size, 0, none⟩) 0 0) ∧ w.alloc (.cells #[] 9) = w' := by
  have hmk := run_make_row' (P := Try.prog) 22 9 (Value.string ByteArray.empty) 16 Try.underlying22 info9 rfl .i64 .i64 0 (by omega) (by omega) w
  rw [show madeCells #[Value.string ByteArray.empty] 0 = #[] by simp [madeCells], show ((0 : Nat) : Int) = 0 from rfl] at hmk
  have hnil := fun (w : World) (a : Option Addr) (n c : Nat) => Lib.run_eql_slice_nil (P := Try.prog) w 22 9 a n c 0 0 Try.underlying22
  go_enter Try.func8, Try.ntmps8
  go_wp2
  go_loopw [4] (fun i wr => i = .int .i64 0 ∧ w.alloc (.cells #[] 9) = wr) (fun i _ => 0)
  case atStart => exact ⟨rfl, rfl⟩
  case round =>
    obtain ⟨rfl, rfl⟩ := hrel
    clear hmk
    go_wp2
    go_ret
    exact ⟨rfl, rfl⟩

theorem cloneS (w : World) (x : Addr) (len cap : Nat) (V : Nat → ByteArray) (hl : len ≤ 1048576) (hc : Cells w x len fun i => Value.string (V i)) :
    Calls Try.prog 8 #[.slice (some x) len cap] w fun e w' => e = .returned (.slice (some ⟨w.heap.size, 0, none⟩) len len) ∧
      w.alloc (.cells ((Array.range len).map fun i => Value.string (V i)) 9) = w' := by
  by_cases h0 : len = 0
  · subst h0
    rw [show ((Array.range 0).map fun i => Value.string (V i)) = #[] by simp]
    exact cloneS_zero w x cap
  · obtain ⟨b, off, sp⟩ := x
    obtain rfl : sp = none := hc.1 (by omega)
    exact cloneS_main w b off len cap V hl hc

theorem cloneS_nil (w : World) : Calls Try.prog 8 #[.slice none 0 0] w fun e w' => e = .returned (.slice none 0 0) ∧ w = w' := by
  have hnil := fun (w : World) (a : Option Addr) (n c : Nat) => Lib.run_eql_slice_nil (P := Try.prog) w 22 9 a n c 0 0 Try.underlying22
  go_enter Try.func8, Try.ntmps8
  go_wp2
  go_ret
  exact ⟨rfl, rfl⟩


def ClS (w : World) (n : Nat) (V : Nat → ByteArray) (e : Ending) (w' : World) : Prop := ∃ a, e = .returned (.slice a n n) ∧ Row w' a n (fun i => .string (V i)) ∧ Below w.heap.size w w'
theorem cloneSR (w : World) (a : Option Addr) (n cap : Nat) (V : Nat → ByteArray) (hn : n ≤ 1048576) (ha : a = none → n = 0 ∧ cap = 0) (h : Row w a n (fun i => .string (V i))) : Calls Try.prog 8 #[.slice a n cap] w (ClS w n V) := by
  rcases a with _ | x
  · obtain ⟨rfl, rfl⟩ := ha rfl
    refine (cloneS_nil w).mono ?_
    rintro e w' ⟨rfl, rfl⟩
    exact ⟨none, rfl, fun h => by omega, Below.refl _ _⟩
  · have hc : Cells w x n fun i => Value.string (V i) := by
      by_cases h0 : 0 < n
      · obtain ⟨b, off, e, hcell⟩ := h h0
        cases e
        exact ⟨fun _ => rfl, fun i hi => hcell i hi⟩
      · exact ⟨fun h => by omega, fun i hi => by omega⟩
    refine (cloneS w x n cap V hn hc).mono ?_
    rintro e w' ⟨rfl, hw⟩
    refine ⟨_, rfl, fun h0 => ⟨w.heap.size, 0, rfl, fun i hi => ?_⟩, by rw [← hw]; exact (Below.refl _ _).alloc (Nat.le_refl _) _⟩
    rw [← hw]
    exact (Cells.made w n (fun i => Value.string (V i)) 9).2 i hi
theorem rl14 (w : World) (c : Nat) (h : GoodR c) : Calls Try.prog 14 #[.int .i32 c] w fun e w' => e = .returned (.int .i64 (rlen c)) ∧ w = w' := by
  unfold GoodR at h
  have h0 : ¬ ((c : Int) < 0) := by omega
  by_cases h1 : c < 128
  · have H : Hid (rlen c = 1) := Lib.hid (by simp [rlen, h1])
    go_enter Try.func14, Try.ntmps14
    go_wp2_with fail
    go_ret
    exact ⟨by rw [H.out]; rfl, rfl⟩
  by_cases h2 : c < 2048
  · have H : Hid (rlen c = 2) := Lib.hid (by simp [rlen, h1, h2])
    go_enter Try.func14, Try.ntmps14
    go_wp2_with fail
    go_ret
    exact ⟨by rw [H.out]; rfl, rfl⟩
  by_cases h3 : c < 65536
  · have H : Hid (rlen c = 3) := Lib.hid (by simp [rlen, h1, h2, h3])
    by_cases h4 : c < 55296
    · go_enter Try.func14, Try.ntmps14
      go_wp2_with fail
      go_ret
      exact ⟨by rw [H.out]; rfl, rfl⟩
    · have h5 : 57344 ≤ c := by omega
      go_enter Try.func14, Try.ntmps14
      go_wp2_with fail
      go_ret
      exact ⟨by rw [H.out]; rfl, rfl⟩
  · have H : Hid (rlen c = 4) := Lib.hid (by simp [rlen, h1, h2, h3])
    have h4 : c ≤ 1114111 := by omega
    go_enter Try.func14, Try.ntmps14
    go_wp2_with fail
    go_ret
    exact ⟨by rw [H.out]; rfl, rfl⟩
def NoMap : Value → Option Value := fun _ => none
def Mk9 (w : World) (e : Ending) (w' : World) : Prop := ∃ B, e = .returned (.agg #[.map (some B)]) ∧ MapIs w' B StrKey 0 NoMap ∧ Below w.heap.size w w'
set_option maxHeartbeats 1000000 in
theorem make9 (w : World) (a : Option Addr) (n cap : Nat) (V : Nat → ByteArray) (hn : n ≤ 65536) (h : Row w a n (fun i => .string (V i))) (hV : ∀ i, i < n → (V i).size ≤ 3) : Calls Try.prog 9 #[.slice a n cap] w (Mk9 w) := by
  have HU := Lib.hid h
  have HV := Lib.hid hV
  clear h hV
  have hmm := @run_makeMap Try.prog
  go_enter Try.func9, Try.ntmps9
  go_wp2_with fail
  clear hmm
  go_loop [12] (fun i => ∃ k : Nat, k ≤ n ∧ i = .int .i64 k) (fun i => n - (intOf i).toNat)
  case atStart => exact ⟨0, by omega, rfl⟩
  case round =>
    obtain ⟨k, hk, rfl⟩ := hrel
    by_cases hlt : k < n
    · obtain ⟨b, off, rfl, hcell⟩ := HU.out (by omega)
      have hcw := hcell k hlt
      have hbl := block_lt_of_cell hcw
      simp only at hbl
      have hv := HV.out k hlt
      have c1 := (((((Below.refl w.heap.size w).alloc (Nat.le_refl _) (.cells #[.map none] 28)).alloc (by simp) (.map #[] 0)).alloc (by simp; omega) (.cells #[.map (some (w.heap.size + 1))] 28)).cell (p := ⟨b, off + k, none⟩) hbl).trans hcw
      clear hcell
      go_wp2_with fail
      go_round
      case rel => exact ⟨k + 1, by omega, by go_num⟩
      case measure => simp [intOf]; omega
    · obtain rfl : k = n := by omega
      go_wp2_with fail
      refine bodyPost_ret (v := .agg #[.map (some (w.heap.size + 1))]) (by simp [results, Try.results9, go_sem]) rfl ⟨_, rfl, ?_, ?_⟩
      · have h : MapIs (((w.alloc (.cells #[.map (some (w.heap.size + 1))] 28)).alloc (.map #[] 0)).alloc (.cells #[.map (some (w.heap.size + 1))] 28)) (w.alloc (.cells #[.map (some (w.heap.size + 1))] 28)).heap.size StrKey 0 NoMap := (MapIs.made (w.alloc (.cells #[.map (some (w.heap.size + 1))] 28)) StrKey).alloc (.cells #[.map (some (w.heap.size + 1))] 28)
        simpa using h
      · exact (((Below.refl _ _).alloc (Nat.le_refl _) _).alloc (by simp) _).alloc (by simp; omega) _
/-- What is held while the typo is walked over. -/
structure Lp (w wr : World) (s : ByteArray) (B pos : Nat) : Prop where
  it : wr.heap[w.heap.size + 1]? = some (.stringIter s pos)
  bx : wr.cell? ⟨w.heap.size, 0, none⟩ = some (.map (some B))
  mp : MapIs wr B StrKey 0 NoMap
  bel : Below w.heap.size w wr
  lt : B < w.heap.size
theorem Lp.drewN {w wr : World} {s : ByteArray} {B pos : Nat} (h : Lp w wr s B pos) (n : Nat) : Lp w (wr.drewN n) s B pos :=
  ⟨by simpa using h.it, by simpa using h.bx, h.mp.of_block (by simp), ⟨h.bel.os, h.bel.tape, h.bel.output, h.bel.size, h.bel.block⟩, h.lt⟩
theorem Lp.next {w wr : World} {s : ByteArray} {B pos : Nat} (h : Lp w wr s B pos) (p : Nat) : Lp w (wr.iterAt (w.heap.size + 1) s p) s B p :=
  ⟨Lib.iterAt_heap wr _ s pos p h.it, (World.cell?_of_block (a := ⟨w.heap.size, 0, none⟩) (Lib.iterAt_other wr (w.heap.size + 1) w.heap.size s p (by omega))).trans h.bx, h.mp.of_block (Lib.iterAt_other wr (w.heap.size + 1) B s p (by have := h.lt; omega)), Lib.below_iterAt h.bel (by omega) s p, h.lt⟩
def No10 (w : World) (e : Ending) (w' : World) : Prop := e = .returned (.tuple #[.string ByteArray.empty, .bool false]) ∧ Below w.heap.size w w'
theorem zero9 (w : World) : (zeroValue 9).run Try.prog w = .ok (.string ByteArray.empty) w := by kernel_rfl
theorem look26 {w : World} {B : Nat} (h : MapIs w B StrKey 0 NoMap) (k : ByteArray) : (Instr.lookup 26 (.map (some B)) (.string k) true).run Try.prog w = .ok (.tuple #[.string ByteArray.empty, .bool false]) w := by
  have := h.look (P := Try.prog) (T := 26) (et := 9) (z := .string ByteArray.empty) (strKey Try.underlying9 w) Try.underlying26 (zero9 w) ⟨k, rfl⟩ true
  simpa [NoMap] using this
set_option maxRecDepth 100000 in
set_option maxHeartbeats 4000000 in
theorem no10 (w : World) (s : ByteArray) (B : Nat) (hs : s.size ≤ 4096) (hm : MapIs w B StrKey 0 NoMap) (hv : VS s) : Calls Try.prog 10 #[.agg #[.map (some B)], .string s] w (No10 w) := by
  have HV := Lib.hid hv
  have HM := Lib.hid hm
  clear hv hm
  have l1 : ∀ k, (Instr.lookup 26 (.map (some B)) (.string k) true).run Try.prog (w.alloc (.cells #[.map (some B)] 28)) = _ := fun k => look26 (HM.out.alloc _) k
  go_enter Try.func10, Try.ntmps10
  go_wp2_with fail
  clear l1
  have hst : Lp w ((w.alloc (.cells #[.map (some B)] 28)).iter s 0) s B 0 := by
    have hlt := HM.out.lt
    refine ⟨?_, ?_, (HM.out.alloc _).alloc _, ((Below.refl _ _).alloc (Nat.le_refl _) _).alloc (by simp) _, hlt⟩
    · have := World.iter_heap (w.alloc (.cells #[.map (some B)] 28)) s 0
      simpa using this
    · have hb := (Below.refl (w.alloc (.cells #[.map (some B)] 28)).heap.size (w.alloc (.cells #[.map (some B)] 28))).alloc (Nat.le_refl _) (.stringIter s 0)
      exact (hb.cell (p := ⟨w.heap.size, 0, none⟩) (by simp)).trans (by simp)
  have HST := Lib.hid hst
  clear hst
  go_loopw [] (fun wr => ∃ t pos : Nat, pl s t = pos ∧ pos ≤ s.size ∧ Lp w wr s B pos) (fun wr => s.size - wr.iterPos (w.heap.size + 1))
  case atStart => exact ⟨0, 0, rfl, by omega, HST.out⟩
  case round =>
    clear HST
    obtain ⟨t, pos, hpl, hpos, hL⟩ := hrel
    have HPL := Lib.hid hpl
    have HL := Lib.hid hL
    clear hpl hL
    rename World => wr
    by_cases hlt : pos < s.size
    · obtain ⟨c, hc⟩ : ∃ c, (Utf8.decode s pos).1 = c := ⟨_, rfl⟩
      obtain ⟨wd, hwd⟩ : ∃ wd, (Utf8.decode s pos).2 = wd := ⟨_, rfl⟩
      have hok : Ok s pos := by have := HV.out t (by rw [HPL.out]; exact hlt); rw [HPL.out] at this; exact this
      have hfit := fits s pos hlt
      unfold Ok at hok
      rw [hc, hwd] at hok
      rw [hwd] at hfit
      obtain ⟨f1, f2⟩ := hfit
      have HG := Lib.hid hok.1
      have hr : rlen c = wd := hok.2
      have HR := Lib.hid hr
      have HPS := Lib.hid (pl_step HPL.out hwd)
      have HNX := fun ty => Lib.run_next_any_at (P := Try.prog) wr (w.heap.size + 1) s pos ty HL.out.it hlt
      simp only [hc, hwd] at HNX
      have HL2 := Lib.hid (HL.out.next (pos + wd))
      have RL := Lib.hid (fun w' => rl14 w' c HG.out)
      simp only [hr] at RL
      clear hok hc hwd hr
      go_upto_region 7 with (fail)
      clear HNX
      generalize wr.iterAt (w.heap.size + 1) s (pos + wd) = W1 at *
      have e1 : IntKind.i64.wrap ((pos : Int) + (wd : Int)) = (pos : Int) + (wd : Int) := Go.IntWalk.i64_in _ (by omega)
      have e2 : (0 : Int) ≤ (pos : Int) + (wd : Int) := by omega
      have e3 : ((pos : Int) + (wd : Int)).toNat = pos + wd := by omega
      have bx := HL2.out.bx
      have lk : ∀ k, (Instr.lookup 26 (.map (some B)) (.string k) true).run Try.prog W1 = .ok (.tuple #[.string ByteArray.empty, .bool false]) W1 := fun k => look26 HL2.out.mp k
      have lkn : ∀ n k, (Instr.lookup 26 (.map (some B)) (.string k) true).run Try.prog (W1.drewN n) = .ok (.tuple #[.string ByteArray.empty, .bool false]) (W1.drewN n) := fun n k => look26 (HL2.out.drewN n).mp k
      go_quiet ((go_at_call 14; exact Calls.quiet_of_same ((RL.out _).mono fun _ _ h => ⟨h.1, h.2.symm⟩)))
      go_wp2_with fail
      go_roundw
      case rel => exact ⟨t + 1, pos + wd, HPS.out, f2, HL2.out.drewN _⟩
      case measure => simp [World.iterPos, HL2.out.it, HL.out.it]; omega
    · have hnx := fun ty => Lib.run_next_end_at (P := Try.prog) wr (w.heap.size + 1) s pos ty HL.out.it hlt
      go_wp2_with fail
      go_ret2
      exact ⟨rfl, HL.out.bel⟩
end Go.Proofs.Ythmakfnceliciaa.ty
