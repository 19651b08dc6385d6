/-
  Units and runes of a string.
-/
import Derived.Test.YtmbeddbcinhleaaUb
import Derived.Laws.IdiomStrings
namespace Go.Proofs.Ytmbeddbcinhleaa.ut
open Go.ChangeShapes Go.WideShapes Go.ChangeAt Go.RowKit Go.Deep Go.Proofs.Ytmbeddbcinhleaa.u8
set_option linter.unusedVariables false
set_option linter.unusedSimpArgs false
/-- A slice of n elements, V i at place i; of an empty one nothing is said. -/
def Row (w : World) (a : Option Addr) (n : Nat) (V : Nat → Value) : Prop := 0 < n → ∃ b off, a = some ⟨b, off, none⟩ ∧ ∀ i, i < n → w.cell? ⟨b, off + i, none⟩ = some (V i)
theorem Row.below {w w' : World} {a : Option Addr} {n : Nat} {V : Nat → Value} (h : Row w a n V) (hb : Below w.heap.size w w') : Row w' a n V := by
  intro h0
  obtain ⟨b, off, rfl, hc⟩ := h h0
  refine ⟨b, off, rfl, fun i hi => ?_⟩
  have h1 := hc i hi
  exact (hb.cell (p := ⟨b, off + i, none⟩) (block_lt_of_cell h1)).trans h1
/-- A slice that holds the numbers xs. -/
def Li (w : World) (v : Value) (xs : List Int) : Prop := ∃ a c, v = .slice a xs.length c ∧ Row w a xs.length (fun i => .int .u16 (xs.getD i 0))
theorem Li.below {w w' : World} {v : Value} {xs : List Int} (h : Li w v xs) (hb : Below w.heap.size w w') : Li w' v xs := by
  obtain ⟨a, c, e, h⟩ := h
  exact ⟨a, c, e, h.below hb⟩
theorem Li.of_own {w : World} {base n : Nat} {v : Value} {xs : List Int} (h : w.ownsRow base 26 1 v n (xs.map (Value.int .u16))) (hn : n = xs.length) : Li w v xs := by
  subst hn
  obtain ⟨_, h⟩ := h
  rcases h with ⟨rfl, h0⟩ | ⟨g, cap, cur, rfl, _, hg, hle, _, hsz, htake⟩
  · exact ⟨none, 0, by rw [h0], fun h => by omega⟩
  · refine ⟨_, cap, rfl, fun _ => ⟨g, 0, rfl, fun i hi => ?_⟩⟩
    rw [cell_of_row _ g (0 + i) _ _ _ hg, Nat.zero_add]
    have h1 : (cur.toList.take (xs.length * 1))[i]? = (xs.map (Value.int .u16))[i]? := by rw [htake]
    rw [Nat.mul_one, List.getElem?_take, if_pos hi, Array.getElem?_toList] at h1
    rw [h1, List.getElem?_map]
    simp only [List.getD_eq_getElem?_getD, List.getElem?_eq_getElem hi]
    rfl
/-- The same, its block not below base. -/
def LiB (base : Nat) (w : World) (v : Value) (xs : List Int) : Prop := ∃ a c, v = .slice a xs.length c ∧ (0 < xs.length → ∃ b off, a = some ⟨b, off, none⟩ ∧ base ≤ b ∧ ∀ i, i < xs.length → w.cell? ⟨b, off + i, none⟩ = some (.int .u16 (xs.getD i 0)))
theorem LiB.keep {base : Nat} {w w' : World} {v : Value} {xs : List Int} (h : LiB base w v xs) (e : ∀ q, base ≤ q → q < w.heap.size → w'.heap[q]? = w.heap[q]?) : Li w' v xs := by
  obtain ⟨a, c, rfl, h⟩ := h
  refine ⟨a, c, rfl, fun h0 => ?_⟩
  obtain ⟨b, off, rfl, hb, hc⟩ := h h0
  refine ⟨b, off, rfl, fun i hi => ?_⟩
  have h1 := hc i hi
  exact (World.cell?_of_block (a := ⟨b, off + i, none⟩) (e b hb (block_lt_of_cell h1))).trans h1
theorem LiB.of_own {w : World} {base n : Nat} {v : Value} {xs : List Int} (h : w.ownsRow base 26 1 v n (xs.map (Value.int .u16))) (hn : n = xs.length) : LiB base w v xs := by
  have h2 := Li.of_own h hn
  obtain ⟨a, c, rfl, h3⟩ := h2
  refine ⟨a, c, rfl, fun h0 => ?_⟩
  obtain ⟨b, off, rfl, hc⟩ := h3 h0
  exact ⟨b, off, rfl, (h.lt b rfl).1, hc⟩
theorem s2u (w : World) (s : ByteArray) (hs : s.size ≤ 1048576) : Calls Try.prog 5 #[.string s] w fun e w' => (∃ v, e = .returned v ∧ LiB w.heap.size w' v (us s s.size 0)) ∧ Below w.heap.size w w' :=
  (s2u21 w s hs).mono fun _ _ ⟨v, n, e, h1, h2, h3⟩ => ⟨⟨v, e, LiB.of_own h1 h2⟩, h3⟩
theorem us_len (s : ByteArray) : (us s s.size 0).length ≤ 2 * s.size := by
  have key : ∀ b pos, pos ≤ s.size → (us s b pos).length + 2 * pos ≤ 2 * s.size := by
    intro b
    induction b with
    | zero => intro pos h; simp [us]; omega
    | succ b ih =>
      intro pos h
      rw [us]
      split
      · rename_i hp
        have hf := fits s pos hp
        have h1 := ih (pos + (Utf8.decode s pos).2) hf.2
        have h2 := enc_len (Utf8.decode s pos).1
        rw [List.length_append]; omega
      · simp; omega
  have := key s.size 0 (by omega)
  omega
/-- The units that lie before the i-th belong to what lies before pos. -/
def Ux (s : ByteArray) (pos i : Nat) : Prop := ∃ b xs, xs ++ us s b pos = us s s.size 0 ∧ xs.length = i ∧ s.size ≤ pos + b
theorem Ux.start (s : ByteArray) : Ux s 0 0 := ⟨s.size, [], by simp, rfl, by omega⟩
theorem Ux.done {s : ByteArray} {pos i : Nat} (h : Ux s pos i) (hp : ¬ pos < s.size) : i = (us s s.size 0).length := by
  obtain ⟨b, xs, h1, h2, _⟩ := h
  rw [us_end s b pos hp, List.append_nil] at h1
  rw [← h1, h2]
theorem Ux.one {s : ByteArray} {pos i c wd : Nat} (h : Ux s pos i) (hp : pos < s.size) (hc : (Utf8.decode s pos).1 = c) (hw : (Utf8.decode s pos).2 = wd) (h16 : c ≤ 65535) :
    (us s s.size 0).getD i 0 = (c : Int) ∧ i + 1 ≤ (us s s.size 0).length ∧ Ux s (pos + wd) (i + 1) := by
  obtain ⟨b, xs, h1, h2, h3⟩ := h
  have hf := fits s pos hp
  rw [hw] at hf
  obtain ⟨b, rfl⟩ : ∃ b', b = b' + 1 := ⟨b - 1, by omega⟩
  rw [us, if_pos hp, hc, hw] at h1
  have he : enc c = [(c : Int)] := by unfold enc; rw [if_pos h16]
  rw [he] at h1
  refine ⟨?_, ?_, b, xs ++ [(c : Int)], by rw [← h1, List.append_assoc], by simp [h2], by omega⟩
  · rw [← h1, ← h2]; simp
  · rw [← h1]; simp; omega
theorem Ux.two {s : ByteArray} {pos i c wd : Nat} (h : Ux s pos i) (hp : pos < s.size) (hc : (Utf8.decode s pos).1 = c) (hw : (Utf8.decode s pos).2 = wd) (h16 : 65535 < c) :
    (us s s.size 0).getD i 0 = 55296 + ((c : Int) - 65536) / 1024 ∧ (us s s.size 0).getD (i + 1) 0 = 56320 + ((c : Int) - 65536) % 1024 ∧ i + 2 ≤ (us s s.size 0).length ∧ Ux s (pos + wd) (i + 2) := by
  obtain ⟨b, xs, h1, h2, h3⟩ := h
  have hf := fits s pos hp
  rw [hw] at hf
  obtain ⟨b, rfl⟩ : ∃ b', b = b' + 1 := ⟨b - 1, by omega⟩
  rw [us, if_pos hp, hc, hw] at h1
  have he : enc c = [55296 + ((c : Int) - 65536) / 1024, 56320 + ((c : Int) - 65536) % 1024] := by unfold enc; rw [if_neg (by omega)]
  rw [he] at h1
  refine ⟨?_, ?_, ?_, b, xs ++ [55296 + ((c : Int) - 65536) / 1024, 56320 + ((c : Int) - 65536) % 1024], by rw [← h1, List.append_assoc], by simp [h2], by omega⟩
  · rw [← h1, ← h2]; simp
  · rw [← h1, ← h2]
    have : xs.length + 1 < (xs ++ ([55296 + ((c : Int) - 65536) / 1024, 56320 + ((c : Int) - 65536) % 1024] ++ us s b (pos + wd))).length := by simp
    rw [List.getD_eq_getElem?_getD, List.getElem?_append_right (by omega)]
    simp
  · rw [← h1]; simp; omega

/-- The runes of what is left of a string. -/
def rs (s : ByteArray) : Nat → Nat → List Int
  | 0, _ => []
  | b + 1, pos => if pos < s.size then ((Utf8.decode s pos).1 : Int) :: rs s b (pos + (Utf8.decode s pos).2) else []
theorem rs_end (s : ByteArray) (b pos : Nat) (h : ¬ pos < s.size) : rs s b pos = [] := by cases b <;> simp [rs, h]
theorem runesFrom_rs (s : ByteArray) : ∀ b pos acc, Conv.runesFrom s b pos acc = acc ++ ((rs s b pos).map (Value.int .i32)).toArray
  | 0, _, acc => by simp [Conv.runesFrom, rs]
  | b + 1, pos, acc => by
    unfold Conv.runesFrom rs
    split
    · show Conv.runesFrom s b (pos + (Utf8.decode s pos).2) (acc.push (.int .i32 (Int.ofNat (Utf8.decode s pos).1))) = _
      rw [runesFrom_rs s b]
      simp
    · simp
/-- So far ys, the walk stands at pos. -/
def Rx (s : ByteArray) (pos : Nat) (ys : List Int) : Prop := ∃ b, ys ++ rs s b pos = rs s s.size 0 ∧ s.size ≤ pos + b ∧ ys.length ≤ pos ∧ pos ≤ s.size
theorem Rx.start (s : ByteArray) : Rx s 0 [] := ⟨s.size, by simp, by omega, by simp, by omega⟩
theorem Rx.done {s : ByteArray} {pos : Nat} {ys : List Int} (h : Rx s pos ys) (hp : ¬ pos < s.size) : ys = rs s s.size 0 := by
  obtain ⟨b, h1, _⟩ := h
  rw [rs_end s b pos hp, List.append_nil] at h1
  exact h1
theorem Rx.step {s : ByteArray} {pos : Nat} {ys : List Int} (h : Rx s pos ys) (hp : pos < s.size) {c wd : Nat} (hc : (Utf8.decode s pos).1 = c) (hw : (Utf8.decode s pos).2 = wd) : Rx s (pos + wd) (ys ++ [(c : Int)]) := by
  obtain ⟨b, h1, h2, h3, h4⟩ := h
  have hf := fits s pos hp
  rw [hw] at hf
  obtain ⟨b, rfl⟩ : ∃ b', b = b' + 1 := ⟨b - 1, by omega⟩
  refine ⟨b, ?_, by omega, by rw [List.length_append]; simp; omega, by omega⟩
  rw [← h1, List.append_assoc]
  congr 1
  rw [rs, if_pos hp, hc, hw]
  rfl
theorem rs_len (s : ByteArray) : (rs s s.size 0).length ≤ s.size := by
  have key : ∀ b pos, pos ≤ s.size → (rs s b pos).length + pos ≤ s.size := by
    intro b
    induction b with
    | zero => intro pos h; simp [rs]; omega
    | succ b ih =>
      intro pos h
      rw [rs]
      split
      · rename_i hp
        have hf := fits s pos hp
        have h1 := ih (pos + (Utf8.decode s pos).2) hf.2
        rw [List.length_cons]; omega
      · simp; omega
  have := key s.size 0 (by omega)
  omega
/-- A slice that holds the numbers xs. -/
def Lr (w : World) (v : Value) (xs : List Int) : Prop := ∃ a c, v = .slice a xs.length c ∧ Row w a xs.length (fun i => .int .i32 (xs.getD i 0))
theorem Lr.of_own {w : World} {base n : Nat} {v : Value} {xs : List Int} (h : w.ownsRow base 21 1 v n (xs.map (Value.int .i32))) (hn : n = xs.length) : Lr w v xs := by
  subst hn
  obtain ⟨_, h⟩ := h
  rcases h with ⟨rfl, h0⟩ | ⟨g, cap, cur, rfl, _, hg, hle, _, hsz, htake⟩
  · exact ⟨none, 0, by rw [h0], fun h => by omega⟩
  · refine ⟨_, cap, rfl, fun _ => ⟨g, 0, rfl, fun i hi => ?_⟩⟩
    rw [cell_of_row _ g (0 + i) _ _ _ hg, Nat.zero_add]
    have h1 : (cur.toList.take (xs.length * 1))[i]? = (xs.map (Value.int .i32))[i]? := by rw [htake]
    rw [Nat.mul_one, List.getElem?_take, if_pos hi, Array.getElem?_toList] at h1
    rw [h1, List.getElem?_map]
    simp only [List.getD_eq_getElem?_getD, List.getElem?_eq_getElem hi]
    rfl
set_option maxHeartbeats 1000000 in
theorem eq9 (w : World) (a b : Option Addr) (ca cb : Nat) (xs : List Int) (hl : xs.length ≤ 4194304) (h1 : Row w a xs.length (fun i => .int .i32 (xs.getD i 0))) (h2 : Row w b xs.length (fun i => .int .i32 (xs.getD i 0))) :
    Calls Try.prog 9 #[.slice a xs.length ca, .slice b xs.length cb] w fun e w' => e = .returned (.bool true) ∧ Below w.heap.size w w' := by
  have H1 := Lib.hid h1
  have H2 := Lib.hid h2
  clear h1 h2
  generalize xs.length = n at *
  have en : ((n : Int) != (n : Int)) = false := by simp
  go_enter Try.func9, Try.ntmps9
  go_wp2_with fail
  go_loopw [5] (fun i wr => ∃ k : Nat, k ≤ n ∧ i = .int .i64 k ∧ Below w.heap.size w wr) (fun i _ => n - (intOf i).toNat)
  case atStart => exact ⟨0, by omega, rfl, Below.refl _ _⟩
  case round =>
    obtain ⟨k, hk, rfl, hB⟩ := hrel
    have HB := Lib.hid hB
    clear hB
    by_cases hlt : k < n
    · obtain ⟨b1, o1, e1, hc1⟩ := H1.out.below HB.out (by omega)
      obtain ⟨b2, o2, e2, hc2⟩ := H2.out.below HB.out (by omega)
      cases e1
      cases e2
      have c1 := hc1 k hlt
      have c2 := hc2 k hlt
      have ex : (xs.getD k 0 != xs.getD k 0) = false := by simp
      clear hc1 hc2
      generalize xs.getD k 0 = x at *
      go_wp2_with fail
      go_region
      go_wp2_with fail
      go_roundw
      case rel => exact ⟨k + 1, by omega, by go_num, HB.out.drew⟩
      case measure => simp [intOf]; omega
    · obtain rfl : k = n := by omega
      go_wp2_with fail
      go_ret
      exact ⟨rfl, HB.out⟩
theorem info32 : (Try.prog.info? 21).map (fun i => (i.zero, i.size, i.bytes)) = some (some (.int .i32 0), 1, 4) := by kernel_rfl
theorem make32 (w : World) (c : Nat) (hc : c ≤ 4194304) : (Instr.makeSlice 25 (.int .i64 0) (.int .i64 c)).run Try.prog w = .ok (.slice (some ⟨w.heap.size, 0, none⟩) 0 c) (w.alloc (.cells (madeCells #[.int .i32 0] c) 21)) := by
  obtain ⟨i, hi, hz⟩ := Option.map_eq_some_iff.1 info32
  simp only [Prod.mk.injEq] at hz
  obtain ⟨h1, h2, h3⟩ := hz
  have hr := run_make (P := Try.prog) w 25 21 i _ Try.underlying25 hi h1 .i64 .i64 0 c (by omega) (by omega) (by rw [h3]; omega) (by omega)
  simp only [Int.toNat_natCast, h2, Nat.mul_one] at hr
  exact hr
theorem made32_size (c : Nat) : (madeCells #[.int .i32 0] c).size = c * 1 := by simp [size_madeCells]
theorem news32 (W : World) (x : Int) : ∀ j u, ([x].map (Value.int .i32))[j]? = some u → (W.alloc (.cells #[.int .i32 x] 21)).cell? ((⟨W.heap.size, 0, none⟩ : Addr).add j) = some u := by
  intro j u h
  have hc := cell_of_row (W.alloc (.cells #[.int .i32 x] 21)) W.heap.size j _ _ _ (heap_alloc_new W _)
  rw [Go.WideShapes.add_plain, Nat.zero_add, hc]
  simpa using h
theorem ones32 (l : List Int) : ∀ u ∈ l.map (Value.int .i32), u.oneCell' = true := by
  intro u hu
  obtain ⟨x, _, rfl⟩ := List.mem_map.1 hu
  rfl
structure Ob (w W : World) (v : Value) (n : Nat) (ys : List Int) : Prop where
  own : W.ownsRow w.heap.size 21 1 v n (ys.map (Value.int .i32))
  bel : Below w.heap.size w W
theorem Ob.app {w W w2 : World} {v v' : Value} {n : Nat} {ys : List Int} {x : Int} (h : Ob w W v n ys) {o : Obj} (ho : w2.ownsRow w.heap.size 21 1 v' (n + 1) (ys.map (Value.int .i32) ++ [x].map (Value.int .i32))) (hg : (W.alloc o).grownBy w2 v.ownBlock) : Ob w w2 v' (n + 1) (ys ++ [x]) := by
  refine ⟨by rw [List.map_append]; exact ho, ?_⟩
  have hb := h.bel.alloc h.bel.size o
  refine ⟨hg.os.trans hb.os, hg.tape.trans hb.tape, hg.output.trans hb.output, Nat.le_trans hb.size hg.size, fun k hk => ?_⟩
  refine (hg.block k (Nat.lt_of_lt_of_le hk hb.size) ?_).trans (hb.block k hk)
  intro e
  have := (h.own.lt k e.symm).1
  omega
theorem Ob.kba {w W : World} {v : Value} {n : Nat} {ys : List Int} (h : Ob w W v n ys) (o : Obj) : w.heap.size ≤ (W.alloc o).heap.size := by have := h.bel.size; simp; omega
/-- The row that the conversion to runes makes. -/
theorem runes_row (w : World) (s : ByteArray) (hs : s.size ≤ 1048576) : ∃ v w', (convert 9 25 (.string s)).run Try.prog w = .ok v w' ∧ Lr w' v (rs s s.size 0) ∧ Below w.heap.size w w' := by
  have hr := run_runes_of_string (P := Try.prog) w 9 25 21 s Try.underlying9 Try.underlying25 Try.underlying21 (by
    have := size_runesFrom s s.size 0 #[]
    simp at this; omega)
  refine ⟨_, _, hr, ?_, (Below.refl _ _).drew.alloc (Nat.le_refl _) _⟩
  have hz : (Conv.runesFrom s s.size 0 #[]).size = (rs s s.size 0).length := by rw [runesFrom_rs]; simp
  refine ⟨_, _, by rw [hz], fun _ => ⟨w.heap.size, 0, rfl, fun i hi => ?_⟩⟩
  rw [cell_of_row _ w.heap.size (0 + i) _ _ _ (heap_alloc_new w.drew _), Nat.zero_add, Array.getElem?_append_left (by rw [hz]; exact hi), runesFrom_rs]
  simp only [List.getD_eq_getElem?_getD]
  simp [hi]
end Go.Proofs.Ytmbeddbcinhleaa.ut
