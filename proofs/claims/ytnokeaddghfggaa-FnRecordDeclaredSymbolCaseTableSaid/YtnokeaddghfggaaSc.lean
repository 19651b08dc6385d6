/-
  Declared symbols: the scopes.
-/
import Derived.Test.YtnokeaddghfggaaSy
namespace Go.Proofs.Ytnokeaddghfggaa.ds
open Go.ChangeShapes Go.WideShapes Go.ChangeAt Go.RowKit Go.Deep Go.Proofs.Ytnokeaddghfggaa.mk
set_option linter.unusedVariables false
set_option linter.unusedSimpArgs false

def memV (m : Int) : Value := .agg #[.int .u32 1, .int .u32 m, .int .i32 0]
theorem nm_inj {i j : Nat} (hi : i < 8) (hj : j < 8) (h : nm i = nm j) : i = j := by
  unfold nm at h
  have h1 := congrArg (fun b : ByteArray => b.data[1]?) h
  simp at h1
  have h2 := congrArg UInt8.toNat h1
  simp [Nat.toUInt8, UInt8.toNat_ofNat'] at h2
  omega
theorem str_key (j : Nat) : StrKey (.string (nm j)) := ⟨_, rfl⟩
/-- What the module scope's map says after the names below k. -/
def Mem (Q : Nat → Int) (lm n k : Nat) (M : Value → Option Value) : Prop := ∀ j, j < 8 → M (.string (nm j)) = if j < k ∧ 0 ≤ mem Q lm n j then some (memV (mem Q lm n j)) else none
/-- The scope at block B with its map at MB. -/
structure Sco (w0 W : World) (B MB k : Nat) (Q : Nat → Int) (lm n : Nat) : Prop where
  c3 : W.cell? ⟨B, 3, none⟩ = some (.map (some MB))
  mp : ∃ m M, MapIs W MB StrKey m M ∧ Mem Q lm n k M
  bel : Below w0.heap.size w0 W
  lo : w0.heap.size ≤ MB
  ne : MB < B
  bB : ∃ ca, W.heap[B]? = some (.cells ca 77 (0, 0))
theorem Sco.lt {w0 W : World} {B MB k : Nat} {Q : Nat → Int} {lm n : Nat} (h : Sco w0 W B MB k Q lm n) : B < W.heap.size := block_lt_of_cell h.c3
theorem Sco.below {w0 W W' : World} {B MB k : Nat} {Q : Nat → Int} {lm n : Nat} (h : Sco w0 W B MB k Q lm n) (hb : Below W.heap.size W W') : Sco w0 W' B MB k Q lm n := by
  have hl := h.lt; have hn := h.ne
  obtain ⟨m, M, h1, h2⟩ := h.mp
  exact ⟨(hb.cell (p := ⟨B, 3, none⟩) hl).trans h.c3, ⟨m, M, h1.of_block (hb.block MB h1.lt), h2⟩, h.bel.trans (hb.mono h.bel.size), h.lo, h.ne, by obtain ⟨ca, hc⟩ := h.bB; exact ⟨ca, (hb.block B hl).trans hc⟩⟩
open Classical in
/-- The world after the map has taken a member in. -/
noncomputable def putW (W : World) (MB j : Nat) (m : Int) : World :=
  if h : ∃ w', (Instr.mapUpdate 66 (.map (some MB)) (.string (nm j)) (memV m)).run Try.prog W = .ok () w' then Classical.choose h else W
theorem put_run {W : World} {MB m : Nat} {M : Value → Option Value} (h : MapIs W MB StrKey m M) (j : Nat) (x : Int) : (Instr.mapUpdate 66 (.map (some MB)) (.string (nm j)) (memV x)).run Try.prog W = .ok () (putW W MB j x) ∧ MapIs (putW W MB j x) MB StrKey (if (M (.string (nm j))).isSome then m else m + 1) (upd M (.string (nm j)) (memV x)) ∧ OnlyB MB W (putW W MB j x) := by
  obtain ⟨w', e1, e2, e3⟩ := h.put (strKey Try.underlying9 W) Try.underlying66 (str_key j) (memV x)
  have hx : ∃ w', (Instr.mapUpdate 66 (.map (some MB)) (.string (nm j)) (memV x)).run Try.prog W = .ok () w' := ⟨w', e1⟩
  have h1 : (Instr.mapUpdate 66 (.map (some MB)) (.string (nm j)) (memV x)).run Try.prog W = .ok () (putW W MB j x) := by
    unfold putW; rw [dif_pos hx]; exact Classical.choose_spec hx
  have h2 : w' = putW W MB j x := by
    have := e1.symm.trans h1
    simpa using this
  rw [h2] at e2 e3
  exact ⟨h1, e2, e3⟩
theorem Sco.put {w0 W : World} {B MB k : Nat} {Q : Nat → Int} {lm n : Nat} (h : Sco w0 W B MB k Q lm n) (hk : k < 8) (hm : 0 ≤ mem Q lm n k) : Sco w0 (putW W MB k (mem Q lm n k)) B MB (k + 1) Q lm n := by
  obtain ⟨m, M, h1, h2⟩ := h.mp
  obtain ⟨_, e2, e3⟩ := put_run h1 k (mem Q lm n k)
  have hn := h.ne
  refine ⟨(e3.cell (p := ⟨B, 3, none⟩) (by show B ≠ MB; omega)).trans h.c3, ⟨_, _, e2, fun j hj => ?_⟩, h.bel.trans (e3.below h.lo), h.lo, h.ne, by obtain ⟨ca, hc⟩ := h.bB; exact ⟨ca, (e3.block B (by omega)).trans hc⟩⟩
  by_cases e : j = k
  · subst e; rw [upd_same, if_pos ⟨by omega, hm⟩]
  · rw [upd_other _ _ (fun h => e (nm_inj hj hk (by simpa using h))), h2 j hj]
    by_cases hjk : j < k
    · have : j < k + 1 := by omega
      simp [hjk, this]
    · have : ¬ j < k + 1 := by omega
      simp [hjk, this]
theorem Sco.skip {w0 W : World} {B MB k : Nat} {Q : Nat → Int} {lm n : Nat} (h : Sco w0 W B MB k Q lm n) (hm : ¬ 0 ≤ mem Q lm n k) : Sco w0 W B MB (k + 1) Q lm n := by
  obtain ⟨m, M, h1, h2⟩ := h.mp
  refine ⟨h.c3, ⟨m, M, h1, fun j hj => ?_⟩, h.bel, h.lo, h.ne, h.bB⟩
  rw [h2 j hj]
  by_cases e : j = k
  · subst e; simp [hm]
  · by_cases hjk : j < k
    · have : j < k + 1 := by omega
      simp [hjk, this]
    · have : ¬ j < k + 1 := by omega
      simp [hjk, this]
/-- A world in which the map can take a member in. -/
def Good (W : World) (MB : Nat) : Prop := ∃ m M, MapIs W MB StrKey m M
theorem Sco.good {w0 W : World} {B MB k : Nat} {Q : Nat → Int} {lm n : Nat} (h : Sco w0 W B MB k Q lm n) : Good W MB := by
  obtain ⟨m, M, h1, _⟩ := h.mp; exact ⟨m, M, h1⟩
theorem good_run {W : World} {MB : Nat} (h : Good W MB) (j : Nat) (x : Int) : (Instr.mapUpdate 66 (.map (some MB)) (.string (nm j)) (.agg #[.int .u32 1, .int .u32 x, .int .i32 0])).run Try.prog W = .ok () (putW W MB j x) := by
  obtain ⟨m, M, h1⟩ := h; exact (put_run h1 j x).1
/-- What the two scopes are. -/
def ScP (w : World) (top : Bool) (Q : Nat → Int) (lm n : Nat) (e : Ending) (w' : World) : Prop :=
  ∃ C B MB, e = .returned (.tuple #[.pointer (some ⟨C, 0, none⟩), .pointer (some ⟨B, 0, none⟩)]) ∧ Sco w w' B MB 8 Q lm n ∧ w.heap.size ≤ C ∧ (∃ cc, w'.heap[C]? = some (.cells cc 77 (0, 0))) ∧ (C = B ↔ top = true) ∧ C ≠ MB
theorem mem_lt (Q : Nat → Int) (lm n j : Nat) : mem Q lm n j < n ∧ -1 ≤ mem Q lm n j ∨ mem Q lm n j = -1 ∨ Q j < 0 := by
  unfold mem; split
  · by_cases h : Q j < 0
    · exact .inr (.inr h)
    · left; omega
  · exact .inr (.inl rfl)
set_option maxRecDepth 100000 in
set_option maxHeartbeats 4000000 in
theorem scopes6 (w : World) (n : Nat) (aQ : Option Addr) (lm cm : Nat) (Q : Nat → Int) (top : Bool) (hn : n ≤ 65537) (hlm : lm ≤ 65536) (hQ : ∀ i, 0 ≤ Q i ∧ Q i < 65536) (rQ : Row w aQ lm fun i => .int .u16 (Q i)) :
    Calls Try.prog 6 #[.int .i64 n, .slice aQ lm cm, .bool top] w (ScP w top Q lm n) := by
  have HQ := Lib.hid hQ
  have RQ := Lib.hid rQ
  clear hQ rQ
  have hmm := fun (w : World) => run_makeMap (P := Try.prog) 66 w
  go_enter Try.func6, Try.ntmps6
  go_wp2_with fail
  have HS0 : Hid (Sco w ((w.alloc (.map #[] 0)).alloc (.cells #[.pointer none, .pointer none, .slice none 0 0, .map (some w.heap.size), .slice none 0 0, .slice none 0 0, .int .i32 0, .int .i32 0, .int .u32 0, .int .u32 0, .bool false, .bool false, .bool false, .bool false, .int .u8 0, .int .u8 0] 77)) (w.heap.size + 1) w.heap.size 0 Q lm n) := Lib.hid (by
    have s1 : (w.alloc (.map #[] 0)).heap.size = w.heap.size + 1 := by simp
    have hb := heap_alloc_new (w.alloc (.map #[] 0)) (.cells #[.pointer none, .pointer none, .slice none 0 0, .map (some w.heap.size), .slice none 0 0, .slice none 0 0, .int .i32 0, .int .i32 0, .int .u32 0, .int .u32 0, .bool false, .bool false, .bool false, .bool false, .int .u8 0, .int .u8 0] 77)
    rw [s1] at hb
    exact ⟨cell_of_row _ _ 3 _ _ _ hb, ⟨0, _, (MapIs.made w StrKey).alloc _, fun j hj => by simp⟩, ((Below.refl _ _).alloc (Nat.le_refl _) _).alloc (by simp) _, Nat.le_refl _, by omega, ⟨_, hb⟩⟩)
  generalize ((w.alloc (.map #[] 0)).alloc (.cells #[.pointer none, .pointer none, .slice none 0 0, .map (some w.heap.size), .slice none 0 0, .slice none 0 0, .int .i32 0, .int .i32 0, .int .u32 0, .int .u32 0, .bool false, .bool false, .bool false, .bool false, .int .u8 0, .int .u8 0] 77)) = w1 at *
  clear hmm
  go_loopw [9] (fun i wr => ∃ k : Nat, k ≤ 8 ∧ i = .int .i64 k ∧ Sco w wr (w.heap.size + 1) w.heap.size k Q lm n) (fun i _ => 8 - (intOf i).toNat)
  case atStart => exact ⟨0, by omega, rfl, HS0.out⟩
  case round =>
    clear HS0
    obtain ⟨k, hk, rfl, hS⟩ := hrel
    have HS := Lib.hid hS
    clear hS
    by_cases hlt : k < 8
    · go_wp2_with fail
      rename World => wr
      refine (member12 wr aQ lm cm Q k n hlm (by omega) hn HQ.out (RQ.out.below HS.out.bel)).mono ?_
      rintro e wr' ⟨rfl, rfl⟩
      rename World => wr
      by_cases hm : 0 ≤ mem Q lm n k
      · have hml : mem Q lm n k < n := by
          rcases mem_lt Q lm n k with h | h | h
          · exact h.1
          · omega
          · have := HQ.out k; omega
        have HM := Lib.hid hm
        obtain ⟨x, hx⟩ : ∃ x : Nat, mem Q lm n k = x := ⟨(mem Q lm n k).toNat, by omega⟩
        rw [hx] at hml
        rw [hx]
        have HX := Lib.hid hx
        have hx6 : x ≤ 65537 := by omega
        clear hx hm hml
        have HSd := Lib.hid (HS.out.below (show Below wr.heap.size wr wr.drew from ⟨rfl, rfl, rfl, Nat.le_refl _, fun _ _ => rfl⟩))
        have c3 := HS.out.c3
        have hg := fun W h => good_run (W := W) (MB := w.heap.size) h k (x : Int)
        have hlB := HS.out.lt
        have hwk : IntKind.u8.wrap (k : Int) = (k : Int) := IntWalk.u8_in _ (by omega)
        go_simp
        go_wp2_with fail
        go_region_with (first | (go_at_call 14; go_loud (refine (name14 _ k hlt).mono ?_; rintro e W2 ⟨rfl, hb⟩; have HS2 := Lib.hid (Sco.below (Hid.out (by assumption)) hb); have c4 := HS2.out.c3; have g4 := HS2.out.good; clear hb)) | (go_at_call 10; go_loud (refine (ref10 _ x hx6).mono ?_; rintro e W3 ⟨rfl, hb⟩; have HS3 := Lib.hid (Sco.below (Hid.out (by assumption)) hb); have c5 := HS3.out.c3; have g5 := HS3.out.good; clear hb)))
        all_goals
          clear hg hwk
          go_wp2_with fail
          go_roundw
          case rel => exact ⟨k + 1, by omega, by go_num, by rw [← HX.out]; first | exact HS3.out.put hlt HM.out | exact HS2.out.put hlt HM.out⟩
          case measure => simp [intOf]; omega
      · have hm2 : mem Q lm n k < 0 := by omega
        have HM := Lib.hid hm
        clear hm
        go_simp
        go_wp2_with fail
        go_roundw
        case rel => exact ⟨k + 1, by omega, by go_num, HS.out.skip HM.out⟩
        case measure => simp [intOf]; omega
    · obtain rfl : k = 8 := by omega
      cases top
      · have hmm := fun (w : World) => run_makeMap (P := Try.prog) 66 w
        have hlB := HS.out.lt
        go_wp2_with fail
        rename World => wr
        go_ret2
        have hb : Below wr.heap.size wr ((wr.alloc (.map #[] 0)).alloc (.cells #[.pointer none, .pointer (some ⟨w.heap.size + 1, 0, none⟩), .slice none 0 0, .map (some wr.heap.size), .slice none 0 0, .slice none 0 0, .int .i32 0, .int .i32 0, .int .u32 0, .int .u32 0, .bool false, .bool false, .bool false, .bool false, .int .u8 0, .int .u8 0] 77)) := ((Below.refl _ _).alloc (Nat.le_refl _) _).alloc (by simp) _
        exact ⟨wr.heap.size + 1, w.heap.size + 1, w.heap.size, rfl, HS.out.below hb, by omega, ⟨_, by have := heap_alloc_new (wr.alloc (.map #[] 0)) (.cells #[.pointer none, .pointer (some ⟨w.heap.size + 1, 0, none⟩), .slice none 0 0, .map (some wr.heap.size), .slice none 0 0, .slice none 0 0, .int .i32 0, .int .i32 0, .int .u32 0, .int .u32 0, .bool false, .bool false, .bool false, .bool false, .int .u8 0, .int .u8 0] 77); rw [show (wr.alloc (.map #[] 0)).heap.size = wr.heap.size + 1 by simp] at this; exact this⟩, ⟨fun e => by omega, fun e => by cases e⟩, by omega⟩
      · go_wp2_with fail
        go_ret2
        exact ⟨w.heap.size + 1, w.heap.size + 1, w.heap.size, rfl, HS.out, by omega, HS.out.bB, ⟨fun _ => rfl, fun _ => rfl⟩, by omega⟩
end Go.Proofs.Ytnokeaddghfggaa.ds
