/-
  Comments: the statement walked.
-/
import Derived.Test.YthhlioepgfjknaaMe

namespace Go.Proofs.Ythhlioepgfjknaa.ma
open Go.ChangeShapes Go.WideShapes Go.ChangeAt Go.RowKit Go.Deep Go.Proofs.Ythhlioepgfjknaa.mk
set_option linter.unusedVariables false
set_option linter.unusedSimpArgs false
set_option maxRecDepth 100000
set_option maxHeartbeats 40000000

/-- A clone: a list without room to spare, in a block of its own (or nil). -/
def Cl (B : Nat) (w : World) (v : Value) (n : Nat) (z : Nat → ByteArray) : Prop := ∃ x, v = .slice x n n ∧ Row w x n (fun i => .string (z i)) ∧ (x = none → n = 0) ∧ ∀ y, x = some y → B ≤ y.block ∧ y.block < w.heap.size
theorem Cl.below {B : Nat} {w w' : World} {v : Value} {n : Nat} {z : Nat → ByteArray} (h : Cl B w v n z) (hb : Below w.heap.size w w') : Cl B w' v n z := by
  obtain ⟨x, h1, h2, h3, h4⟩ := h
  exact ⟨x, h1, h2.below hb, h3, fun y hy => ⟨(h4 y hy).1, Nat.lt_of_lt_of_le (h4 y hy).2 hb.size⟩⟩
theorem Cl.rs {B : Nat} {w : World} {v : Value} {n : Nat} {z : Nat → ByteArray} (h : Cl B w v n z) : Rs w v n z := by
  obtain ⟨x, h1, h2, h3, h4⟩ := h
  exact ⟨x, n, h1, h2, fun e => ⟨h3 e, h3 e⟩⟩
theorem Cl.touch {B b : Nat} {w w' : World} {v : Value} {n : Nat} {z : Nat → ByteArray} (h : Cl B w v n z) (ht : Touch (fun k => k = b) w w') (hb : ∀ x k c, v = .slice (some x) k c → x.block ≠ b) : Cl B w' v n z := by
  obtain ⟨x, h1, h2, h3, h4⟩ := h
  subst h1
  exact ⟨x, rfl, h2.touch ht fun y hy => hb y n n (by rw [hy]), h3, fun y hy => ⟨(h4 y hy).1, Nat.lt_of_lt_of_le (h4 y hy).2 ht.size⟩⟩
theorem clone13 (w : World) (v : Value) (n : Nat) (z : Nat → ByteArray) (hn : n ≤ 1048576) (h : Rs w v n z) : Calls Try.prog 13 #[v] w fun e w' => ∃ v', e = .returned v' ∧ Cl w.heap.size w' v' n z ∧ Below w.heap.size w w' := by
  obtain ⟨a, c, rfl, hr, ha⟩ := h
  cases a with
  | none =>
    obtain ⟨rfl, rfl⟩ := ha rfl
    refine (cloneS_nil w).mono ?_
    rintro e w' ⟨rfl, rfl⟩
    exact ⟨_, rfl, ⟨none, rfl, fun h => by omega, fun _ => rfl, fun y h => by cases h⟩, Below.refl _ _⟩
  | some x =>
    have hc : Cells w x n fun i => Value.string (z i) := by
      refine ⟨fun h0 => ?_, fun i hi => ?_⟩
      · obtain ⟨b, off, e, _⟩ := hr h0
        cases e; rfl
      · obtain ⟨b, off, e, hc⟩ := hr (by omega)
        cases e; exact hc i hi
    refine (cloneS w x n c z hn hc).mono ?_
    rintro e w' ⟨rfl, rfl⟩
    refine ⟨_, rfl, ⟨some ⟨w.heap.size, 0, none⟩, rfl, fun h0 => ⟨w.heap.size, 0, rfl, fun i hi => ?_⟩, fun h => (by cases h), fun y h => by cases h; exact ⟨Nat.le_refl _, by simp⟩⟩, (Below.refl _ _).alloc (Nat.le_refl _) _⟩
    rw [cell_of_row _ _ (0 + i) _ _ _ (heap_alloc_new _ _)]
    simp [hi]
theorem Rs.congr {w : World} {v : Value} {n : Nat} {z y : Nat → ByteArray} (h : Rs w v n z) (e : ∀ i, i < n → z i = y i) : Rs w v n y := by
  obtain ⟨a, c, h1, h2, h3⟩ := h
  refine ⟨a, c, h1, fun h0 => ?_, h3⟩
  obtain ⟨b, off, e1, hc⟩ := h2 h0
  exact ⟨b, off, e1, fun i hi => (hc i hi).trans (by show some (Value.string (z i)) = some (Value.string (y i)); rw [e i hi])⟩
theorem cat_left (z : Nat → ByteArray) (n : Nat) (u : Nat → ByteArray) : ∀ i, i < n + 0 → cat z n u i = z i := fun i hi => by unfold cat; rw [if_pos (by omega)]
/-- What is known once the two lists are cloned. -/
structure Sx (w W : World) (B1 B2 bm : Nat) (la lb : Int) (va vb : Value) (n m : Nat) (z u : Nat → ByteArray) : Prop where
  c1 : W.cell? ⟨B1, 0, none⟩ = some (.int .i32 la)
  c2 : W.cell? ⟨B2, 0, none⟩ = some (.int .i32 lb)
  ra : Cl 0 W va n z
  rb : Cl 0 W vb m u
  na : ∀ x k c, va = .slice (some x) k c → x.block ≠ bm
  nb : ∀ x k c, vb = .slice (some x) k c → x.block ≠ bm
  e1 : B1 ≠ bm
  e2 : B2 ≠ bm
  ge : w.heap.size ≤ bm
  bel : Below w.heap.size w W
theorem Sx.touch {w W W' : World} {B1 B2 bm : Nat} {la lb : Int} {va vb : Value} {n m : Nat} {z u : Nat → ByteArray} (h : Sx w W B1 B2 bm la lb va vb n m z u) (ht : Touch (fun k => k = bm) W W') : Sx w W' B1 B2 bm la lb va vb n m z u :=
  ⟨(World.cell?_of_block (a := ⟨B1, 0, none⟩) (ht.block B1 (block_lt_of_cell h.c1) h.e1)).trans h.c1, (World.cell?_of_block (a := ⟨B2, 0, none⟩) (ht.block B2 (block_lt_of_cell h.c2) h.e2)).trans h.c2,
    h.ra.touch ht h.na, h.rb.touch ht h.nb, h.na, h.nb, h.e1, h.e2, h.ge, h.bel.trans (ht.below h.bel.size fun k hk => by rw [hk]; exact h.ge)⟩
theorem Sx.below {w W W' : World} {B1 B2 bm : Nat} {la lb : Int} {va vb : Value} {n m : Nat} {z u : Nat → ByteArray} (h : Sx w W B1 B2 bm la lb va vb n m z u) (hb : Below W.heap.size W W') : Sx w W' B1 B2 bm la lb va vb n m z u := h.touch (Touch.of_below hb _)
theorem none_at (k : Value) : ((fun _ => none : Value → Option Value) k) = none := rfl
def LawP (w : World) (e : Ending) (w' : World) : Prop := e = .returned (.bool true) ∧ Below w.heap.size w w'
theorem law15 (w : World) (x y : Value) (n m : Nat) (z u : Nat → ByteArray) (pa pb sy : Bool) (la lb : Int) (hn : n ≤ maxLen) (hm : m ≤ maxLen) (hz : ∀ i, (z i).size ≤ maxLen) (hu : ∀ i, (u i).size ≤ maxLen) (hx : Rs w x n z) (hy : Rs w y m u) :
    Calls Try.prog 4 #[x, y, .bool pa, .bool pb, .int .i32 la, .int .i32 lb, .bool sy] w (LawP w) := by
  have H12 := Lib.hid (bytes12 w x y n m z u pa pb sy la lb hn hm hz hu hx hy)
  have HX := Lib.hid hx
  have HY := Lib.hid hy
  obtain ⟨a, c, rfl, hr, ha⟩ := hx
  obtain ⟨b, d, rfl, hs, hb⟩ := hy
  have HR := Lib.hid hr
  have HS := Lib.hid hs
  clear hr hs ha hb hz hu
  go_enter Try.func4, Try.ntmps4
  go_wp2_with fail
  refine H12.out.mono ?_
  rintro e w' ⟨rfl | rfl, rfl⟩
  · go_wp2_with fail
    go_ret
    exact ⟨rfl, Below.refl _ _⟩
  clear H12
  by_cases h1 : n ≤ 65536
  rotate_left
  · have d1 : decide ((65536 : Int) < (n : Int)) = true := by simp; omega
    clear h1
    go_wp2_with fail
    go_ret
    exact ⟨rfl, Below.refl _ _⟩
  by_cases h2 : m ≤ 65536
  rotate_left
  · have d1 : decide ((65536 : Int) < (n : Int)) = false := by simp; omega
    have d2 : decide ((65536 : Int) < (m : Int)) = true := by simp; omega
    clear h1 h2
    go_wp2_with fail
    go_ret
    exact ⟨rfl, Below.refl _ _⟩
  have d1 : decide ((65536 : Int) < (n : Int)) = false := by simp; omega
  have d2 : decide ((65536 : Int) < (m : Int)) = false := by simp; omega
  go_wp2_with fail
  clear d1 d2
  go_loop [15, 16] (fun s i => ∃ (k : Nat) (q : Int), k ≤ n ∧ s = .int .i64 q ∧ i = .int .i64 k) (fun _ i => n - (intOf i).toNat)
  case atStart => exact ⟨0, _, by omega, rfl, rfl⟩
  case round =>
    obtain ⟨k, q, hk, rfl, rfl⟩ := hrel
    by_cases hlt : k < n
    · obtain ⟨g, off, rfl, hc⟩ := HR.out (by omega)
      have c1 : w.cell? ⟨g, off + k, none⟩ = some (.string (z k)) := hc k hlt
      clear hc
      go_wp2_with fail
      go_round
      case rel => exact ⟨k + 1, _, by omega, rfl, by go_num⟩
      case measure => simp [intOf]; omega
    obtain rfl : k = n := by omega
    clear hlt hk
    go_wp2_with fail
    go_loop [15, 17] (fun s i => ∃ (j : Nat) (q : Int), j ≤ m ∧ s = .int .i64 q ∧ i = .int .i64 j) (fun _ i => m - (intOf i).toNat)
    case atStart => exact ⟨0, _, by omega, rfl, rfl⟩
    case round =>
      obtain ⟨j, q2, hj, rfl, rfl⟩ := hrel
      by_cases hlt : j < m
      · obtain ⟨g, off, rfl, hc⟩ := HS.out (by omega)
        have c1 : w.cell? ⟨g, off + j, none⟩ = some (.string (u j)) := hc j hlt
        clear hc
        go_wp2_with fail
        go_round
        case rel => exact ⟨j + 1, _, by omega, rfl, by go_num⟩
        case measure => simp [intOf]; omega
      obtain rfl : j = m := by omega
      clear hlt hj
      by_cases h3 : q2 ≤ 1048576
      rotate_left
      · have d1 : decide ((1048576 : Int) < q2) = true := by simp; omega
        clear h3
        go_wp2_with fail
        go_ret
        exact ⟨rfl, Below.refl _ _⟩
      have d1 : decide ((1048576 : Int) < q2) = false := by simp; omega
      clear h3
      go_upto_region 17 with (go_at_call 13; refine (clone13 w _ k z (by omega) HX.out).mono ?_; rintro e w1 ⟨va, rfl, hca, hb1⟩)
      have HY1 := Lib.hid (HY.out.below hb1)
      have HCA := Lib.hid hca
      have HB1 := Lib.hid hb1
      clear hca hb1 HX HY d1
      go_upto_region 18 with (go_at_call 13; refine (clone13 w1 _ j u (by omega) HY1.out).mono ?_; rintro e w2 ⟨vb, rfl, hcb, hb2⟩)
      have HCB := Lib.hid hcb
      have HCA2 := Lib.hid (HCA.out.below hb2)
      have HB2 := Lib.hid (HB1.out.trans (hb2.mono HB1.out.size))
      clear hcb hb2 HCA HB1 HY1
      have hmm := @run_makeMap Try.prog
      go_upto_region 21 with (fail)
      clear hmm
      have hw1 : Below w2.heap.size w2 (((w2.alloc (Obj.cells #[Value.int IntKind.i32 la] 28)).alloc (Obj.cells #[Value.int IntKind.i32 lb] 28)).alloc (Obj.map #[] 0)) := (((Below.refl _ _).alloc (Nat.le_refl _) _).alloc (by simp) _).alloc (by simp; omega) _
      have q1 : (((w2.alloc (Obj.cells #[Value.int IntKind.i32 la] 28)).alloc (Obj.cells #[Value.int IntKind.i32 lb] 28)).alloc (Obj.map #[] 0)).cell? ⟨w2.heap.size, 0, none⟩ = some (.int .i32 la) := (cell_of_row _ _ 0 _ _ _ ((heap_alloc_old _ _ (by simp; omega)).trans ((heap_alloc_old _ _ (by simp)).trans (heap_alloc_new _ _)))).trans rfl
      have q2 : (((w2.alloc (Obj.cells #[Value.int IntKind.i32 la] 28)).alloc (Obj.cells #[Value.int IntKind.i32 lb] 28)).alloc (Obj.map #[] 0)).cell? ⟨w2.heap.size + 1, 0, none⟩ = some (.int .i32 lb) := by
        have h : (((w2.alloc (Obj.cells #[Value.int IntKind.i32 la] 28)).alloc (Obj.cells #[Value.int IntKind.i32 lb] 28))).heap[w2.heap.size + 1]? = some (Obj.cells #[Value.int IntKind.i32 lb] 28) := by
          have h := heap_alloc_new (w2.alloc (Obj.cells #[Value.int IntKind.i32 la] 28)) (Obj.cells #[Value.int IntKind.i32 lb] 28)
          simpa using h
        exact (cell_of_row _ _ 0 _ _ _ ((heap_alloc_old _ _ (by simp)).trans h)).trans rfl
      have s0 : Sx w (((w2.alloc (Obj.cells #[Value.int IntKind.i32 la] 28)).alloc (Obj.cells #[Value.int IntKind.i32 lb] 28)).alloc (Obj.map #[] 0)) w2.heap.size (w2.heap.size + 1) (w2.heap.size + 1 + 1) la lb va vb k j z u := by
        have hsz := HB2.out.size
        refine ⟨q1, q2, ?_, ?_, ?_, ?_, by omega, by omega, by omega, HB2.out.trans (hw1.mono hsz)⟩
        · obtain ⟨x, h1, h2, h3, h4⟩ := HCA2.out
          exact ⟨x, h1, h2.below hw1, h3, fun y hy => ⟨Nat.zero_le _, Nat.lt_of_lt_of_le (h4 y hy).2 hw1.size⟩⟩
        · obtain ⟨x, h1, h2, h3, h4⟩ := HCB.out
          exact ⟨x, h1, h2.below hw1, h3, fun y hy => ⟨Nat.zero_le _, Nat.lt_of_lt_of_le (h4 y hy).2 hw1.size⟩⟩
        · intro x k' c' e
          obtain ⟨x', h1, h2, h3, h4⟩ := HCA2.out
          rw [h1] at e
          cases e
          have := (h4 x rfl).2
          omega
        · intro x k' c' e
          obtain ⟨x', h1, h2, h3, h4⟩ := HCB.out
          rw [h1] at e
          cases e
          have := (h4 x rfl).2
          omega
      have m0 : MapIs (((w2.alloc (Obj.cells #[Value.int IntKind.i32 la] 28)).alloc (Obj.cells #[Value.int IntKind.i32 lb] 28)).alloc (Obj.map #[] 0)) (w2.heap.size + 1 + 1) LocKey 0 (fun _ => none) := by
        have h := MapIs.made ((w2.alloc (Obj.cells #[Value.int IntKind.i32 la] 28)).alloc (Obj.cells #[Value.int IntKind.i32 lb] 28)) LocKey
        simpa using h
      clear q1 q2
      generalize (((w2.alloc (Obj.cells #[Value.int IntKind.i32 la] 28)).alloc (Obj.cells #[Value.int IntKind.i32 lb] 28)).alloc (Obj.map #[] 0)) = W0 at *
      generalize hB1 : w2.heap.size = B1 at *
      generalize hB2 : B1 + 1 = B2 at *
      generalize hbm : B2 + 1 = bm at *
      have S0 := Lib.hid s0
      have M0 := Lib.hid m0
      clear s0 m0 hw1 HCB HCA2 HB2 hB1 hB2 hbm HR HS
      clear hn hm
      by_cases hE : la = lb
      · subst hE
        have dE : (la == la) = true := by simp
        cases pa
        · cases pb
          · cases sy
            · skip
              go_upto_region 30 with (fail)
              have c2 := S0.out.c2
              have SA := Lib.hid (S0.out.below ((Below.refl W0.heap.size W0).alloc (Nat.le_refl _) (Obj.cells #[Value.float FloatKind.f64 0] 45)))
              have MA := Lib.hid (M0.out.alloc (Obj.cells #[Value.float FloatKind.f64 0] 45))
              have c1 := SA.out.c1
              go_upto_region 31 with (go_at_call 14; refine (door_none _ bm _ la la 0 _ MA.out (rfl)).mono ?_; rintro e W9 ⟨rfl, hb9⟩; have S9 := Lib.hid (SA.out.below hb9); have M9 := Lib.hid (MA.out.below hb9 MA.out.lt); clear hb9)
              clear c1 c2 SA MA
              have c1 := S9.out.c1
              have c2 := S9.out.c2
              have hlen : (Builtin.len_ #[40] 3 #[.map (some bm)]).run Try.prog W9 = .ok (.int .i64 0) W9 := M9.out.len Try.underlying40 3
              have l1 : (Instr.lookup 40 (.map (some bm)) (lk la) true).run Try.prog W9 = .ok (.tuple #[.slice none 0 0, .bool false]) W9 := by
                have h := M9.out.look (locKey W9) Try.underlying40 (zero37 W9) (lkKey la) true
                skip
                exact h
              go_wp2_with fail
              go_ret
              exact ⟨rfl, S9.out.bel⟩
            · skip
              go_upto_region 30 with (fail)
              have c2 := S0.out.c2
              have SA := Lib.hid (S0.out.below ((Below.refl W0.heap.size W0).alloc (Nat.le_refl _) (Obj.cells #[Value.float FloatKind.f64 0] 45)))
              have MA := Lib.hid (M0.out.alloc (Obj.cells #[Value.float FloatKind.f64 0] 45))
              have c1 := SA.out.c1
              go_upto_region 31 with (go_at_call 14; refine (door_async _ bm _ la la).mono ?_; rintro e W9 ⟨rfl, hb9⟩; have S9 := Lib.hid (SA.out.below hb9); have M9 := Lib.hid (MA.out.below hb9 MA.out.lt); clear hb9)
              clear c1 c2 SA MA
              have c1 := S9.out.c1
              have c2 := S9.out.c2
              have hlen : (Builtin.len_ #[40] 3 #[.map (some bm)]).run Try.prog W9 = .ok (.int .i64 0) W9 := M9.out.len Try.underlying40 3
              have l1 : (Instr.lookup 40 (.map (some bm)) (lk la) true).run Try.prog W9 = .ok (.tuple #[.slice none 0 0, .bool false]) W9 := by
                have h := M9.out.look (locKey W9) Try.underlying40 (zero37 W9) (lkKey la) true
                skip
                exact h
              go_wp2_with fail
              go_ret
              exact ⟨rfl, S9.out.bel⟩
          · cases sy
            · skip
              go_upto_region 25 with (fail)
              have c1 := S0.out.c1
              obtain ⟨W1, hput, hm1, ho1⟩ := M0.out.put (locKey W0) Try.underlying40 (lkKey la) vb
              have M1 : Hid (MapIs W1 bm LocKey 1 (upd (fun _ => none) (lk la) vb)) := Lib.hid (by have h := hm1; exact h)
              have S1 := Lib.hid (S0.out.touch (onlyB_touch ho1))
              clear hm1 ho1
              go_upto_region 30 with (fail)
              clear hput c1
              have c2 := S1.out.c2
              have SA := Lib.hid (S1.out.below ((Below.refl W1.heap.size W1).alloc (Nat.le_refl _) (Obj.cells #[Value.float FloatKind.f64 0] 45)))
              have MA := Lib.hid (M1.out.alloc (Obj.cells #[Value.float FloatKind.f64 0] 45))
              have c1 := SA.out.c1
              obtain ⟨xa, hva, hra, hna, hba⟩ := SA.out.rb
              have hk : (upd (fun _ => none) (lk la) vb) (lk la) = some (.slice xa j j) := by rw [← hva]; exact upd_same _ _ _
              have hg : (del (upd (fun _ => none) (lk la) vb) (lk la) (lk la)).getD (.slice none 0 0) = .slice none 0 0 := by rw [del_same]; rfl
              have hN' : (if (del (upd (fun _ => none) (lk la) vb) (lk la) (lk la)).isSome then 1 - 1 else 1 - 1 + 1) = 1 := by rw [del_same]; rfl
              have HD := Lib.hid (door_some _ bm W1.heap.size la la 1 _ MA.out xa j u hk hra hna none 0 0 u hg (fun h => by omega) (fun _ => rfl) (by omega) (fun x h => SA.out.nb x j j (by rw [hva, h])) (fun x h => by cases h) 1 hN')
              clear hk hg hN' hva
              go_upto_region 31 with (go_at_call 14; refine HD.out.mono ?_; rintro e W9 ⟨rfl, ht9, v9, hv9, hm9⟩; have S9 := Lib.hid (SA.out.touch ht9); have M9 := Lib.hid hm9; have V9 := Lib.hid hv9; clear ht9 hm9 hv9)
              clear HD hra hna hba
              clear c1 c2 SA MA
              have c1 := S9.out.c1
              have c2 := S9.out.c2
              have hlen : (Builtin.len_ #[40] 3 #[.map (some bm)]).run Try.prog W9 = .ok (.int .i64 1) W9 := M9.out.len Try.underlying40 3
              have l1 : (Instr.lookup 40 (.map (some bm)) (lk la) true).run Try.prog W9 = .ok (.tuple #[v9, .bool true]) W9 := by
                have h := M9.out.look (locKey W9) Try.underlying40 (zero37 W9) (lkKey la) true
                rw [upd_same] at h
                exact h
              have V9b : Hid (Rs W9 v9 j u) := Lib.hid (Rs.congr (n := j + 0) (z := cat u j u) (y := u) V9.out (cat_left u j u))
              clear V9
              go_wp2_with (go_at_call 15; refine (equal15 _ v9 vb j u (by omega) V9b.out S9.out.rb.rs).mono ?_; rintro e W10 ⟨rfl, hb10⟩; have S10 := Lib.hid (S9.out.below hb10); clear hb10)
              go_ret
              exact ⟨rfl, S10.out.bel⟩
            · skip
              go_upto_region 25 with (fail)
              have c1 := S0.out.c1
              obtain ⟨W1, hput, hm1, ho1⟩ := M0.out.put (locKey W0) Try.underlying40 (lkKey la) vb
              have M1 : Hid (MapIs W1 bm LocKey 1 (upd (fun _ => none) (lk la) vb)) := Lib.hid (by have h := hm1; exact h)
              have S1 := Lib.hid (S0.out.touch (onlyB_touch ho1))
              clear hm1 ho1
              go_upto_region 30 with (fail)
              clear hput c1
              have c2 := S1.out.c2
              have SA := Lib.hid (S1.out.below ((Below.refl W1.heap.size W1).alloc (Nat.le_refl _) (Obj.cells #[Value.float FloatKind.f64 0] 45)))
              have MA := Lib.hid (M1.out.alloc (Obj.cells #[Value.float FloatKind.f64 0] 45))
              have c1 := SA.out.c1
              go_upto_region 31 with (go_at_call 14; refine (door_async _ bm _ la la).mono ?_; rintro e W9 ⟨rfl, hb9⟩; have S9 := Lib.hid (SA.out.below hb9); have M9 := Lib.hid (MA.out.below hb9 MA.out.lt); clear hb9)
              clear c1 c2 SA MA
              have c1 := S9.out.c1
              have c2 := S9.out.c2
              have hlen : (Builtin.len_ #[40] 3 #[.map (some bm)]).run Try.prog W9 = .ok (.int .i64 1) W9 := M9.out.len Try.underlying40 3
              have l1 : (Instr.lookup 40 (.map (some bm)) (lk la) true).run Try.prog W9 = .ok (.tuple #[vb, .bool true]) W9 := by
                have h := M9.out.look (locKey W9) Try.underlying40 (zero37 W9) (lkKey la) true
                rw [upd_same] at h
                exact h
              go_wp2_with (go_at_call 15; refine (equal15 _ vb vb j u (by omega) S9.out.rb.rs S9.out.rb.rs).mono ?_; rintro e W10 ⟨rfl, hb10⟩; have S10 := Lib.hid (S9.out.below hb10); clear hb10)
              go_ret
              exact ⟨rfl, S10.out.bel⟩
        · cases pb
          · cases sy
            · skip
              go_upto_region 23 with (fail)
              have c1 := S0.out.c1
              obtain ⟨W1, hput, hm1, ho1⟩ := M0.out.put (locKey W0) Try.underlying40 (lkKey la) va
              have M1 : Hid (MapIs W1 bm LocKey 1 (upd (fun _ => none) (lk la) va)) := Lib.hid (by have h := hm1; exact h)
              have S1 := Lib.hid (S0.out.touch (onlyB_touch ho1))
              clear hm1 ho1
              go_upto_region 30 with (fail)
              clear hput c1
              have c2 := S1.out.c2
              have SA := Lib.hid (S1.out.below ((Below.refl W1.heap.size W1).alloc (Nat.le_refl _) (Obj.cells #[Value.float FloatKind.f64 0] 45)))
              have MA := Lib.hid (M1.out.alloc (Obj.cells #[Value.float FloatKind.f64 0] 45))
              have c1 := SA.out.c1
              obtain ⟨xa, hva, hra, hna, hba⟩ := SA.out.ra
              have hk : (upd (fun _ => none) (lk la) va) (lk la) = some (.slice xa k k) := by rw [← hva]; exact upd_same _ _ _
              have hg : (del (upd (fun _ => none) (lk la) va) (lk la) (lk la)).getD (.slice none 0 0) = .slice none 0 0 := by rw [del_same]; rfl
              have hN' : (if (del (upd (fun _ => none) (lk la) va) (lk la) (lk la)).isSome then 1 - 1 else 1 - 1 + 1) = 1 := by rw [del_same]; rfl
              have HD := Lib.hid (door_some _ bm W1.heap.size la la 1 _ MA.out xa k z hk hra hna none 0 0 u hg (fun h => by omega) (fun _ => rfl) (by omega) (fun x h => SA.out.na x k k (by rw [hva, h])) (fun x h => by cases h) 1 hN')
              clear hk hg hN' hva
              go_upto_region 31 with (go_at_call 14; refine HD.out.mono ?_; rintro e W9 ⟨rfl, ht9, v9, hv9, hm9⟩; have S9 := Lib.hid (SA.out.touch ht9); have M9 := Lib.hid hm9; have V9 := Lib.hid hv9; clear ht9 hm9 hv9)
              clear HD hra hna hba
              clear c1 c2 SA MA
              have c1 := S9.out.c1
              have c2 := S9.out.c2
              have hlen : (Builtin.len_ #[40] 3 #[.map (some bm)]).run Try.prog W9 = .ok (.int .i64 1) W9 := M9.out.len Try.underlying40 3
              have l1 : (Instr.lookup 40 (.map (some bm)) (lk la) true).run Try.prog W9 = .ok (.tuple #[v9, .bool true]) W9 := by
                have h := M9.out.look (locKey W9) Try.underlying40 (zero37 W9) (lkKey la) true
                rw [upd_same] at h
                exact h
              have V9b : Hid (Rs W9 v9 k z) := Lib.hid (Rs.congr (n := k + 0) (z := cat z k u) (y := z) V9.out (cat_left z k u))
              clear V9
              go_wp2_with (go_at_call 15; refine (equal15 _ v9 va k z (by omega) V9b.out S9.out.ra.rs).mono ?_; rintro e W10 ⟨rfl, hb10⟩; have S10 := Lib.hid (S9.out.below hb10); clear hb10)
              go_ret
              exact ⟨rfl, S10.out.bel⟩
            · skip
              go_upto_region 23 with (fail)
              have c1 := S0.out.c1
              obtain ⟨W1, hput, hm1, ho1⟩ := M0.out.put (locKey W0) Try.underlying40 (lkKey la) va
              have M1 : Hid (MapIs W1 bm LocKey 1 (upd (fun _ => none) (lk la) va)) := Lib.hid (by have h := hm1; exact h)
              have S1 := Lib.hid (S0.out.touch (onlyB_touch ho1))
              clear hm1 ho1
              go_upto_region 30 with (fail)
              clear hput c1
              have c2 := S1.out.c2
              have SA := Lib.hid (S1.out.below ((Below.refl W1.heap.size W1).alloc (Nat.le_refl _) (Obj.cells #[Value.float FloatKind.f64 0] 45)))
              have MA := Lib.hid (M1.out.alloc (Obj.cells #[Value.float FloatKind.f64 0] 45))
              have c1 := SA.out.c1
              go_upto_region 31 with (go_at_call 14; refine (door_async _ bm _ la la).mono ?_; rintro e W9 ⟨rfl, hb9⟩; have S9 := Lib.hid (SA.out.below hb9); have M9 := Lib.hid (MA.out.below hb9 MA.out.lt); clear hb9)
              clear c1 c2 SA MA
              have c1 := S9.out.c1
              have c2 := S9.out.c2
              have hlen : (Builtin.len_ #[40] 3 #[.map (some bm)]).run Try.prog W9 = .ok (.int .i64 1) W9 := M9.out.len Try.underlying40 3
              have l1 : (Instr.lookup 40 (.map (some bm)) (lk la) true).run Try.prog W9 = .ok (.tuple #[va, .bool true]) W9 := by
                have h := M9.out.look (locKey W9) Try.underlying40 (zero37 W9) (lkKey la) true
                rw [upd_same] at h
                exact h
              go_wp2_with (go_at_call 15; refine (equal15 _ va va k z (by omega) S9.out.ra.rs S9.out.ra.rs).mono ?_; rintro e W10 ⟨rfl, hb10⟩; have S10 := Lib.hid (S9.out.below hb10); clear hb10)
              go_ret
              exact ⟨rfl, S10.out.bel⟩
          · cases sy
            · skip
              go_upto_region 23 with (fail)
              have c1 := S0.out.c1
              obtain ⟨W1, hput, hm1, ho1⟩ := M0.out.put (locKey W0) Try.underlying40 (lkKey la) va
              have M1 : Hid (MapIs W1 bm LocKey 1 (upd (fun _ => none) (lk la) va)) := Lib.hid (by have h := hm1; exact h)
              have S1 := Lib.hid (S0.out.touch (onlyB_touch ho1))
              clear hm1 ho1
              go_upto_region 30 with (fail)
              clear hput c1
              have c2 := S1.out.c2
              have SA := Lib.hid (S1.out.below ((Below.refl W1.heap.size W1).alloc (Nat.le_refl _) (Obj.cells #[Value.float FloatKind.f64 0] 45)))
              have MA := Lib.hid (M1.out.alloc (Obj.cells #[Value.float FloatKind.f64 0] 45))
              have c1 := SA.out.c1
              obtain ⟨xa, hva, hra, hna, hba⟩ := SA.out.ra
              have hk : (upd (fun _ => none) (lk la) va) (lk la) = some (.slice xa k k) := by rw [← hva]; exact upd_same _ _ _
              have hg : (del (upd (fun _ => none) (lk la) va) (lk la) (lk la)).getD (.slice none 0 0) = .slice none 0 0 := by rw [del_same]; rfl
              have hN' : (if (del (upd (fun _ => none) (lk la) va) (lk la) (lk la)).isSome then 1 - 1 else 1 - 1 + 1) = 1 := by rw [del_same]; rfl
              have HD := Lib.hid (door_some _ bm W1.heap.size la la 1 _ MA.out xa k z hk hra hna none 0 0 u hg (fun h => by omega) (fun _ => rfl) (by omega) (fun x h => SA.out.na x k k (by rw [hva, h])) (fun x h => by cases h) 1 hN')
              clear hk hg hN' hva
              go_upto_region 31 with (go_at_call 14; refine HD.out.mono ?_; rintro e W9 ⟨rfl, ht9, v9, hv9, hm9⟩; have S9 := Lib.hid (SA.out.touch ht9); have M9 := Lib.hid hm9; have V9 := Lib.hid hv9; clear ht9 hm9 hv9)
              clear HD hra hna hba
              clear c1 c2 SA MA
              have c1 := S9.out.c1
              have c2 := S9.out.c2
              have hlen : (Builtin.len_ #[40] 3 #[.map (some bm)]).run Try.prog W9 = .ok (.int .i64 1) W9 := M9.out.len Try.underlying40 3
              have l1 : (Instr.lookup 40 (.map (some bm)) (lk la) true).run Try.prog W9 = .ok (.tuple #[v9, .bool true]) W9 := by
                have h := M9.out.look (locKey W9) Try.underlying40 (zero37 W9) (lkKey la) true
                rw [upd_same] at h
                exact h
              have V9b : Hid (Rs W9 v9 k z) := Lib.hid (Rs.congr (n := k + 0) (z := cat z k u) (y := z) V9.out (cat_left z k u))
              clear V9
              go_wp2_with (go_at_call 15; refine (equal15 _ v9 va k z (by omega) V9b.out S9.out.ra.rs).mono ?_; rintro e W10 ⟨rfl, hb10⟩; have S10 := Lib.hid (S9.out.below hb10); clear hb10)
              go_ret
              exact ⟨rfl, S10.out.bel⟩
            · skip
              go_upto_region 23 with (fail)
              have c1 := S0.out.c1
              obtain ⟨W1, hput, hm1, ho1⟩ := M0.out.put (locKey W0) Try.underlying40 (lkKey la) va
              have M1 : Hid (MapIs W1 bm LocKey 1 (upd (fun _ => none) (lk la) va)) := Lib.hid (by have h := hm1; exact h)
              have S1 := Lib.hid (S0.out.touch (onlyB_touch ho1))
              clear hm1 ho1
              go_upto_region 30 with (fail)
              clear hput c1
              have c2 := S1.out.c2
              have SA := Lib.hid (S1.out.below ((Below.refl W1.heap.size W1).alloc (Nat.le_refl _) (Obj.cells #[Value.float FloatKind.f64 0] 45)))
              have MA := Lib.hid (M1.out.alloc (Obj.cells #[Value.float FloatKind.f64 0] 45))
              have c1 := SA.out.c1
              go_upto_region 31 with (go_at_call 14; refine (door_async _ bm _ la la).mono ?_; rintro e W9 ⟨rfl, hb9⟩; have S9 := Lib.hid (SA.out.below hb9); have M9 := Lib.hid (MA.out.below hb9 MA.out.lt); clear hb9)
              clear c1 c2 SA MA
              have c1 := S9.out.c1
              have c2 := S9.out.c2
              have hlen : (Builtin.len_ #[40] 3 #[.map (some bm)]).run Try.prog W9 = .ok (.int .i64 1) W9 := M9.out.len Try.underlying40 3
              have l1 : (Instr.lookup 40 (.map (some bm)) (lk la) true).run Try.prog W9 = .ok (.tuple #[va, .bool true]) W9 := by
                have h := M9.out.look (locKey W9) Try.underlying40 (zero37 W9) (lkKey la) true
                rw [upd_same] at h
                exact h
              go_wp2_with (go_at_call 15; refine (equal15 _ va va k z (by omega) S9.out.ra.rs S9.out.ra.rs).mono ?_; rintro e W10 ⟨rfl, hb10⟩; have S10 := Lib.hid (S9.out.below hb10); clear hb10)
              go_ret
              exact ⟨rfl, S10.out.bel⟩
      · have dE : (la == lb) = false := by simpa using hE
        have hne : lk la ≠ lk lb := fun h => hE (by simpa using h)
        have hne' : lk lb ≠ lk la := fun h => hne h.symm
        cases pa
        · cases pb
          · cases sy
            · skip
              go_upto_region 30 with (fail)
              have c2 := S0.out.c2
              have SA := Lib.hid (S0.out.below ((Below.refl W0.heap.size W0).alloc (Nat.le_refl _) (Obj.cells #[Value.float FloatKind.f64 0] 45)))
              have MA := Lib.hid (M0.out.alloc (Obj.cells #[Value.float FloatKind.f64 0] 45))
              have c1 := SA.out.c1
              go_upto_region 31 with (go_at_call 14; refine (door_none _ bm _ lb la 0 _ MA.out (rfl)).mono ?_; rintro e W9 ⟨rfl, hb9⟩; have S9 := Lib.hid (SA.out.below hb9); have M9 := Lib.hid (MA.out.below hb9 MA.out.lt); clear hb9)
              clear c1 c2 SA MA
              have c1 := S9.out.c1
              have c2 := S9.out.c2
              have hlen : (Builtin.len_ #[40] 3 #[.map (some bm)]).run Try.prog W9 = .ok (.int .i64 0) W9 := M9.out.len Try.underlying40 3
              have l1 : (Instr.lookup 40 (.map (some bm)) (lk la) true).run Try.prog W9 = .ok (.tuple #[.slice none 0 0, .bool false]) W9 := by
                have h := M9.out.look (locKey W9) Try.underlying40 (zero37 W9) (lkKey la) true
                skip
                exact h
              have l2 : (Instr.lookup 40 (.map (some bm)) (lk lb) true).run Try.prog W9 = .ok (.tuple #[.slice none 0 0, .bool false]) W9 := by
                have h := M9.out.look (locKey W9) Try.underlying40 (zero37 W9) (lkKey lb) true
                skip
                exact h
              go_wp2_with fail
              go_ret
              exact ⟨rfl, S9.out.bel⟩
            · skip
              go_upto_region 30 with (fail)
              have c2 := S0.out.c2
              have SA := Lib.hid (S0.out.below ((Below.refl W0.heap.size W0).alloc (Nat.le_refl _) (Obj.cells #[Value.float FloatKind.f64 0] 45)))
              have MA := Lib.hid (M0.out.alloc (Obj.cells #[Value.float FloatKind.f64 0] 45))
              have c1 := SA.out.c1
              go_upto_region 31 with (go_at_call 14; refine (door_async _ bm _ lb la).mono ?_; rintro e W9 ⟨rfl, hb9⟩; have S9 := Lib.hid (SA.out.below hb9); have M9 := Lib.hid (MA.out.below hb9 MA.out.lt); clear hb9)
              clear c1 c2 SA MA
              have c1 := S9.out.c1
              have c2 := S9.out.c2
              have hlen : (Builtin.len_ #[40] 3 #[.map (some bm)]).run Try.prog W9 = .ok (.int .i64 0) W9 := M9.out.len Try.underlying40 3
              have l1 : (Instr.lookup 40 (.map (some bm)) (lk la) true).run Try.prog W9 = .ok (.tuple #[.slice none 0 0, .bool false]) W9 := by
                have h := M9.out.look (locKey W9) Try.underlying40 (zero37 W9) (lkKey la) true
                skip
                exact h
              have l2 : (Instr.lookup 40 (.map (some bm)) (lk lb) true).run Try.prog W9 = .ok (.tuple #[.slice none 0 0, .bool false]) W9 := by
                have h := M9.out.look (locKey W9) Try.underlying40 (zero37 W9) (lkKey lb) true
                skip
                exact h
              go_wp2_with fail
              go_ret
              exact ⟨rfl, S9.out.bel⟩
          · cases sy
            · skip
              go_upto_region 29 with (fail)
              have c1 := S0.out.c2
              obtain ⟨W1, hput, hm1, ho1⟩ := M0.out.put (locKey W0) Try.underlying40 (lkKey lb) vb
              have M1 : Hid (MapIs W1 bm LocKey 1 (upd (fun _ => none) (lk lb) vb)) := Lib.hid (by have h := hm1; exact h)
              have S1 := Lib.hid (S0.out.touch (onlyB_touch ho1))
              clear hm1 ho1
              go_upto_region 30 with (fail)
              clear hput c1
              have c2 := S1.out.c2
              have SA := Lib.hid (S1.out.below ((Below.refl W1.heap.size W1).alloc (Nat.le_refl _) (Obj.cells #[Value.float FloatKind.f64 0] 45)))
              have MA := Lib.hid (M1.out.alloc (Obj.cells #[Value.float FloatKind.f64 0] 45))
              have c1 := SA.out.c1
              go_upto_region 31 with (go_at_call 14; refine (door_none _ bm _ lb la 1 _ MA.out (upd_other _ _ hne)).mono ?_; rintro e W9 ⟨rfl, hb9⟩; have S9 := Lib.hid (SA.out.below hb9); have M9 := Lib.hid (MA.out.below hb9 MA.out.lt); clear hb9)
              clear c1 c2 SA MA
              have c1 := S9.out.c1
              have c2 := S9.out.c2
              have hlen : (Builtin.len_ #[40] 3 #[.map (some bm)]).run Try.prog W9 = .ok (.int .i64 1) W9 := M9.out.len Try.underlying40 3
              have l1 : (Instr.lookup 40 (.map (some bm)) (lk la) true).run Try.prog W9 = .ok (.tuple #[.slice none 0 0, .bool false]) W9 := by
                have h := M9.out.look (locKey W9) Try.underlying40 (zero37 W9) (lkKey la) true
                rw [upd_other _ _ hne] at h
                exact h
              have l2 : (Instr.lookup 40 (.map (some bm)) (lk lb) true).run Try.prog W9 = .ok (.tuple #[vb, .bool true]) W9 := by
                have h := M9.out.look (locKey W9) Try.underlying40 (zero37 W9) (lkKey lb) true
                rw [upd_same] at h
                exact h
              go_wp2_with (go_at_call 15; refine (equal15 _ vb vb j u (by omega) S9.out.rb.rs S9.out.rb.rs).mono ?_; rintro e W11 ⟨rfl, hb11⟩; have S11 := Lib.hid (S9.out.below hb11); clear hb11)
              go_ret
              exact ⟨rfl, S11.out.bel⟩
            · skip
              go_upto_region 29 with (fail)
              have c1 := S0.out.c2
              obtain ⟨W1, hput, hm1, ho1⟩ := M0.out.put (locKey W0) Try.underlying40 (lkKey lb) vb
              have M1 : Hid (MapIs W1 bm LocKey 1 (upd (fun _ => none) (lk lb) vb)) := Lib.hid (by have h := hm1; exact h)
              have S1 := Lib.hid (S0.out.touch (onlyB_touch ho1))
              clear hm1 ho1
              go_upto_region 30 with (fail)
              clear hput c1
              have c2 := S1.out.c2
              have SA := Lib.hid (S1.out.below ((Below.refl W1.heap.size W1).alloc (Nat.le_refl _) (Obj.cells #[Value.float FloatKind.f64 0] 45)))
              have MA := Lib.hid (M1.out.alloc (Obj.cells #[Value.float FloatKind.f64 0] 45))
              have c1 := SA.out.c1
              go_upto_region 31 with (go_at_call 14; refine (door_async _ bm _ lb la).mono ?_; rintro e W9 ⟨rfl, hb9⟩; have S9 := Lib.hid (SA.out.below hb9); have M9 := Lib.hid (MA.out.below hb9 MA.out.lt); clear hb9)
              clear c1 c2 SA MA
              have c1 := S9.out.c1
              have c2 := S9.out.c2
              have hlen : (Builtin.len_ #[40] 3 #[.map (some bm)]).run Try.prog W9 = .ok (.int .i64 1) W9 := M9.out.len Try.underlying40 3
              have l1 : (Instr.lookup 40 (.map (some bm)) (lk la) true).run Try.prog W9 = .ok (.tuple #[.slice none 0 0, .bool false]) W9 := by
                have h := M9.out.look (locKey W9) Try.underlying40 (zero37 W9) (lkKey la) true
                rw [upd_other _ _ hne] at h
                exact h
              have l2 : (Instr.lookup 40 (.map (some bm)) (lk lb) true).run Try.prog W9 = .ok (.tuple #[vb, .bool true]) W9 := by
                have h := M9.out.look (locKey W9) Try.underlying40 (zero37 W9) (lkKey lb) true
                rw [upd_same] at h
                exact h
              go_wp2_with (go_at_call 15; refine (equal15 _ vb vb j u (by omega) S9.out.rb.rs S9.out.rb.rs).mono ?_; rintro e W11 ⟨rfl, hb11⟩; have S11 := Lib.hid (S9.out.below hb11); clear hb11)
              go_ret
              exact ⟨rfl, S11.out.bel⟩
        · cases pb
          · cases sy
            · skip
              go_upto_region 27 with (fail)
              have c1 := S0.out.c1
              obtain ⟨W1, hput, hm1, ho1⟩ := M0.out.put (locKey W0) Try.underlying40 (lkKey la) va
              have M1 : Hid (MapIs W1 bm LocKey 1 (upd (fun _ => none) (lk la) va)) := Lib.hid (by have h := hm1; exact h)
              have S1 := Lib.hid (S0.out.touch (onlyB_touch ho1))
              clear hm1 ho1
              go_upto_region 28 with (fail)
              clear hput c1
              go_upto_region 30 with (fail)
              have c2 := S1.out.c2
              have SA := Lib.hid (S1.out.below ((Below.refl W1.heap.size W1).alloc (Nat.le_refl _) (Obj.cells #[Value.float FloatKind.f64 0] 45)))
              have MA := Lib.hid (M1.out.alloc (Obj.cells #[Value.float FloatKind.f64 0] 45))
              have c1 := SA.out.c1
              obtain ⟨xa, hva, hra, hna, hba⟩ := SA.out.ra
              have hk : (upd (fun _ => none) (lk la) va) (lk la) = some (.slice xa k k) := by rw [← hva]; exact upd_same _ _ _
              have hg : (del (upd (fun _ => none) (lk la) va) (lk la) (lk lb)).getD (.slice none 0 0) = .slice none 0 0 := by rw [del_other _ hne', upd_other _ _ hne']; rfl
              have hN' : (if (del (upd (fun _ => none) (lk la) va) (lk la) (lk lb)).isSome then 1 - 1 else 1 - 1 + 1) = 1 := by rw [del_other _ hne', upd_other _ _ hne']; rfl
              have HD := Lib.hid (door_some _ bm W1.heap.size lb la 1 _ MA.out xa k z hk hra hna none 0 0 u hg (fun h => by omega) (fun _ => rfl) (by omega) (fun x h => SA.out.na x k k (by rw [hva, h])) (fun x h => by cases h) 1 hN')
              clear hk hg hN' hva
              go_upto_region 31 with (go_at_call 14; refine HD.out.mono ?_; rintro e W9 ⟨rfl, ht9, v9, hv9, hm9⟩; have S9 := Lib.hid (SA.out.touch ht9); have M9 := Lib.hid hm9; have V9 := Lib.hid hv9; clear ht9 hm9 hv9)
              clear HD hra hna hba
              clear c1 c2 SA MA
              have c1 := S9.out.c1
              have c2 := S9.out.c2
              have hlen : (Builtin.len_ #[40] 3 #[.map (some bm)]).run Try.prog W9 = .ok (.int .i64 1) W9 := M9.out.len Try.underlying40 3
              have l1 : (Instr.lookup 40 (.map (some bm)) (lk la) true).run Try.prog W9 = .ok (.tuple #[.slice none 0 0, .bool false]) W9 := by
                have h := M9.out.look (locKey W9) Try.underlying40 (zero37 W9) (lkKey la) true
                rw [upd_other _ _ hne, del_same] at h
                exact h
              have l2 : (Instr.lookup 40 (.map (some bm)) (lk lb) true).run Try.prog W9 = .ok (.tuple #[v9, .bool true]) W9 := by
                have h := M9.out.look (locKey W9) Try.underlying40 (zero37 W9) (lkKey lb) true
                rw [upd_same] at h
                exact h
              have V9b : Hid (Rs W9 v9 k z) := Lib.hid (Rs.congr (n := k + 0) (z := cat z k u) (y := z) V9.out (cat_left z k u))
              have HC16 : Hid (Calls Try.prog 16 #[va, .slice none 0 0] W9 fun e w' => ∃ v, e = .returned v ∧ Rs w' v k z ∧ Below W9.heap.size W9 w') := Lib.hid ((concat16 W9 va (.slice none 0 0) k 0 z u (by omega) S9.out.ra.rs (Rs.nil _ u)).mono fun e w' h => by obtain ⟨v, h1, h2, h3⟩ := h; exact ⟨v, h1, Rs.congr (n := k + 0) (z := cat z k u) (y := z) h2 (cat_left z k u), h3⟩)
              clear V9
              go_wp2_with (first | (go_at_call 16; refine HC16.out.mono ?_; rintro e W10 ⟨v10, rfl, hv10, hb10⟩; have S10 := Lib.hid (S9.out.below hb10); have V10 := Lib.hid hv10; have V9' := Lib.hid (V9b.out.below hb10); clear hb10 hv10) | (go_at_call 15; refine (equal15 _ v9 v10 k z (by omega) V9'.out V10.out).mono ?_; rintro e W11 ⟨rfl, hb11⟩; have S11 := Lib.hid (S10.out.below hb11); clear hb11))
              go_ret
              exact ⟨rfl, S11.out.bel⟩
            · skip
              go_upto_region 27 with (fail)
              have c1 := S0.out.c1
              obtain ⟨W1, hput, hm1, ho1⟩ := M0.out.put (locKey W0) Try.underlying40 (lkKey la) va
              have M1 : Hid (MapIs W1 bm LocKey 1 (upd (fun _ => none) (lk la) va)) := Lib.hid (by have h := hm1; exact h)
              have S1 := Lib.hid (S0.out.touch (onlyB_touch ho1))
              clear hm1 ho1
              go_upto_region 28 with (fail)
              clear hput c1
              go_upto_region 30 with (fail)
              have c2 := S1.out.c2
              have SA := Lib.hid (S1.out.below ((Below.refl W1.heap.size W1).alloc (Nat.le_refl _) (Obj.cells #[Value.float FloatKind.f64 0] 45)))
              have MA := Lib.hid (M1.out.alloc (Obj.cells #[Value.float FloatKind.f64 0] 45))
              have c1 := SA.out.c1
              go_upto_region 31 with (go_at_call 14; refine (door_async _ bm _ lb la).mono ?_; rintro e W9 ⟨rfl, hb9⟩; have S9 := Lib.hid (SA.out.below hb9); have M9 := Lib.hid (MA.out.below hb9 MA.out.lt); clear hb9)
              clear c1 c2 SA MA
              have c1 := S9.out.c1
              have c2 := S9.out.c2
              have hlen : (Builtin.len_ #[40] 3 #[.map (some bm)]).run Try.prog W9 = .ok (.int .i64 1) W9 := M9.out.len Try.underlying40 3
              have l1 : (Instr.lookup 40 (.map (some bm)) (lk la) true).run Try.prog W9 = .ok (.tuple #[va, .bool true]) W9 := by
                have h := M9.out.look (locKey W9) Try.underlying40 (zero37 W9) (lkKey la) true
                rw [upd_same] at h
                exact h
              have l2 : (Instr.lookup 40 (.map (some bm)) (lk lb) true).run Try.prog W9 = .ok (.tuple #[.slice none 0 0, .bool false]) W9 := by
                have h := M9.out.look (locKey W9) Try.underlying40 (zero37 W9) (lkKey lb) true
                rw [upd_other _ _ hne'] at h
                exact h
              go_wp2_with (go_at_call 15; refine (equal15 _ va va k z (by omega) S9.out.ra.rs S9.out.ra.rs).mono ?_; rintro e W10 ⟨rfl, hb10⟩; have S10 := Lib.hid (S9.out.below hb10); clear hb10)
              go_ret
              exact ⟨rfl, S10.out.bel⟩
          · cases sy
            · skip
              go_upto_region 27 with (fail)
              have c1 := S0.out.c1
              obtain ⟨W1, hput, hm1, ho1⟩ := M0.out.put (locKey W0) Try.underlying40 (lkKey la) va
              have M1 : Hid (MapIs W1 bm LocKey 1 (upd (fun _ => none) (lk la) va)) := Lib.hid (by have h := hm1; exact h)
              have S1 := Lib.hid (S0.out.touch (onlyB_touch ho1))
              clear hm1 ho1
              go_upto_region 28 with (fail)
              clear hput c1
              go_upto_region 29 with (fail)
              have c1 := S1.out.c2
              obtain ⟨W2, hput, hm2, ho2⟩ := M1.out.put (locKey W1) Try.underlying40 (lkKey lb) vb
              have M2 : Hid (MapIs W2 bm LocKey 2 (upd (upd (fun _ => none) (lk la) va) (lk lb) vb)) := Lib.hid (by have h := hm2; rw [upd_other _ _ hne'] at h; exact h)
              have S2 := Lib.hid (S1.out.touch (onlyB_touch ho2))
              clear hm2 ho2
              go_upto_region 30 with (fail)
              clear hput c1
              have c2 := S2.out.c2
              have SA := Lib.hid (S2.out.below ((Below.refl W2.heap.size W2).alloc (Nat.le_refl _) (Obj.cells #[Value.float FloatKind.f64 0] 45)))
              have MA := Lib.hid (M2.out.alloc (Obj.cells #[Value.float FloatKind.f64 0] 45))
              have c1 := SA.out.c1
              obtain ⟨xa, hva, hra, hna, hba⟩ := SA.out.ra
              have hk : (upd (upd (fun _ => none) (lk la) va) (lk lb) vb) (lk la) = some (.slice xa k k) := by rw [← hva]; exact (upd_other _ _ hne).trans (upd_same _ _ _)
              obtain ⟨xb, hvb, hrb, hnb, hbb⟩ := SA.out.rb
              have hg : (del (upd (upd (fun _ => none) (lk la) va) (lk lb) vb) (lk la) (lk lb)).getD (.slice none 0 0) = .slice xb j j := by rw [del_other _ hne', upd_same]; exact hvb
              have hN' : (if (del (upd (upd (fun _ => none) (lk la) va) (lk lb) vb) (lk la) (lk lb)).isSome then 2 - 1 else 2 - 1 + 1) = 1 := by rw [del_other _ hne', upd_same]; rfl
              have HD := Lib.hid (door_some _ bm W2.heap.size lb la 2 _ MA.out xa k z hk hra hna xb j j u hg hrb hnb (by omega) (fun x h => SA.out.na x k k (by rw [hva, h])) (fun x h => SA.out.nb x j j (by rw [hvb, h])) 1 hN')
              clear hk hg hN' hva hvb
              go_upto_region 31 with (go_at_call 14; refine HD.out.mono ?_; rintro e W9 ⟨rfl, ht9, v9, hv9, hm9⟩; have S9 := Lib.hid (SA.out.touch ht9); have M9 := Lib.hid hm9; have V9 := Lib.hid hv9; clear ht9 hm9 hv9)
              clear HD hra hna hba
              clear hrb hnb hbb
              clear c1 c2 SA MA
              have c1 := S9.out.c1
              have c2 := S9.out.c2
              have hlen : (Builtin.len_ #[40] 3 #[.map (some bm)]).run Try.prog W9 = .ok (.int .i64 1) W9 := M9.out.len Try.underlying40 3
              have l1 : (Instr.lookup 40 (.map (some bm)) (lk la) true).run Try.prog W9 = .ok (.tuple #[.slice none 0 0, .bool false]) W9 := by
                have h := M9.out.look (locKey W9) Try.underlying40 (zero37 W9) (lkKey la) true
                rw [upd_other _ _ hne, del_same] at h
                exact h
              have l2 : (Instr.lookup 40 (.map (some bm)) (lk lb) true).run Try.prog W9 = .ok (.tuple #[v9, .bool true]) W9 := by
                have h := M9.out.look (locKey W9) Try.underlying40 (zero37 W9) (lkKey lb) true
                rw [upd_same] at h
                exact h
              go_wp2_with (first | (go_at_call 16; refine (concat16 W9 va vb k j z u (by omega) S9.out.ra.rs S9.out.rb.rs).mono ?_; rintro e W10 ⟨v10, rfl, hv10, hb10⟩; have S10 := Lib.hid (S9.out.below hb10); have V10 := Lib.hid hv10; have V9' := Lib.hid (V9.out.below hb10); clear hb10 hv10) | (go_at_call 15; refine (equal15 _ v9 v10 (k + j) (cat z k u) (by omega) V9'.out V10.out).mono ?_; rintro e W11 ⟨rfl, hb11⟩; have S11 := Lib.hid (S10.out.below hb11); clear hb11))
              go_ret
              exact ⟨rfl, S11.out.bel⟩
            · skip
              go_upto_region 27 with (fail)
              have c1 := S0.out.c1
              obtain ⟨W1, hput, hm1, ho1⟩ := M0.out.put (locKey W0) Try.underlying40 (lkKey la) va
              have M1 : Hid (MapIs W1 bm LocKey 1 (upd (fun _ => none) (lk la) va)) := Lib.hid (by have h := hm1; exact h)
              have S1 := Lib.hid (S0.out.touch (onlyB_touch ho1))
              clear hm1 ho1
              go_upto_region 28 with (fail)
              clear hput c1
              go_upto_region 29 with (fail)
              have c1 := S1.out.c2
              obtain ⟨W2, hput, hm2, ho2⟩ := M1.out.put (locKey W1) Try.underlying40 (lkKey lb) vb
              have M2 : Hid (MapIs W2 bm LocKey 2 (upd (upd (fun _ => none) (lk la) va) (lk lb) vb)) := Lib.hid (by have h := hm2; rw [upd_other _ _ hne'] at h; exact h)
              have S2 := Lib.hid (S1.out.touch (onlyB_touch ho2))
              clear hm2 ho2
              go_upto_region 30 with (fail)
              clear hput c1
              have c2 := S2.out.c2
              have SA := Lib.hid (S2.out.below ((Below.refl W2.heap.size W2).alloc (Nat.le_refl _) (Obj.cells #[Value.float FloatKind.f64 0] 45)))
              have MA := Lib.hid (M2.out.alloc (Obj.cells #[Value.float FloatKind.f64 0] 45))
              have c1 := SA.out.c1
              go_upto_region 31 with (go_at_call 14; refine (door_async _ bm _ lb la).mono ?_; rintro e W9 ⟨rfl, hb9⟩; have S9 := Lib.hid (SA.out.below hb9); have M9 := Lib.hid (MA.out.below hb9 MA.out.lt); clear hb9)
              clear c1 c2 SA MA
              have c1 := S9.out.c1
              have c2 := S9.out.c2
              have hlen : (Builtin.len_ #[40] 3 #[.map (some bm)]).run Try.prog W9 = .ok (.int .i64 2) W9 := M9.out.len Try.underlying40 3
              have l1 : (Instr.lookup 40 (.map (some bm)) (lk la) true).run Try.prog W9 = .ok (.tuple #[va, .bool true]) W9 := by
                have h := M9.out.look (locKey W9) Try.underlying40 (zero37 W9) (lkKey la) true
                rw [upd_other _ _ hne, upd_same] at h
                exact h
              have l2 : (Instr.lookup 40 (.map (some bm)) (lk lb) true).run Try.prog W9 = .ok (.tuple #[vb, .bool true]) W9 := by
                have h := M9.out.look (locKey W9) Try.underlying40 (zero37 W9) (lkKey lb) true
                rw [upd_same] at h
                exact h
              go_upto_region 57 with (go_at_call 15; refine (equal15 _ va va k z (by omega) S9.out.ra.rs S9.out.ra.rs).mono ?_; rintro e W10 ⟨rfl, hb10⟩; have S10 := Lib.hid (S9.out.below hb10); clear hb10)
              go_wp2_with (go_at_call 15; refine (equal15 _ vb vb j u (by omega) S10.out.rb.rs S10.out.rb.rs).mono ?_; rintro e W11 ⟨rfl, hb11⟩; have S11 := Lib.hid (S10.out.below hb11); clear hb11)
              go_ret
              exact ⟨rfl, S11.out.bel⟩
end Go.Proofs.Ythhlioepgfjknaa.ma
