/-
  The walk of FnLegacyOctalRecordsEachDistinctNodeOnce.
-/
import Derived.Test.YtmfmdegekilgmaaRe
namespace Go.Proofs.Ytmfmdegekilgmaa.lo
open Go.ChangeShapes Go.WideShapes Go.ChangeAt Go.RowKit Go.Deep Go.Proofs.Ytmfmdegekilgmaa.mk
set_option linter.unusedVariables false
set_option linter.unusedSimpArgs false

/-- A slice of n elements, V i at place i; of an empty one nothing is said. -/
def Row (w : World) (a : Option Addr) (n : Nat) (V : Nat → Value) : Prop := 0 < n → ∃ b off, a = some ⟨b, off, none⟩ ∧ ∀ i, i < n → w.cell? ⟨b, off + i, none⟩ = some (V i)
theorem Row.below {w w' : World} {a : Option Addr} {n : Nat} {V : Nat → Value} (h : Row w a n V) (hb : Below w.heap.size w w') : Row w' a n V := by
  intro h0
  obtain ⟨b, off, rfl, hc⟩ := h h0
  refine ⟨b, off, rfl, fun i hi => ?_⟩
  have h1 := hc i hi
  exact (hb.cell (p := ⟨b, off + i, none⟩) (block_lt_of_cell h1)).trans h1
theorem Row.of_cells {w : World} {a : Addr} {n m : Nat} {V : Nat → Value} (hn : n ≤ m) (h : ∀ i, i < m → w.cell? (a.add i) = some (V i)) : Row w (some a) n V := by
  intro h0
  obtain ⟨b, off, spot⟩ := a
  have hspot : spot = none := by simpa [Addr.add] using World.cell?_spot (h 0 (by omega))
  subst hspot
  exact ⟨b, off, rfl, fun j hj => by rw [← Go.WideShapes.add_plain]; exact h j (by omega)⟩
theorem wf_zero (k : IntKind) : (Lit.int k 0).wf = true := by cases k <;> decide
/-- What a walk is told of a slice of integers that came in. -/
def IsInts (k : IntKind) (w : World) (a : Option Addr) (len cap : Nat) (Z : Nat → Int) : Prop :=
  (a = none → len = 0 ∧ cap = 0) ∧ len ≤ maxLen ∧ Row w a len (fun i => .int k (Z i)) ∧ ∀ i, (Lit.int k (Z i)).wf = true
theorem IsInts.nil (k : IntKind) (w : World) : IsInts k w none 0 0 (fun _ => 0) := ⟨fun _ => ⟨rfl, rfl⟩, by unfold maxLen; omega, fun h => by omega, fun i => wf_zero k⟩
theorem IsInts.mk {k : IntKind} {w : World} {a : Addr} {len cap : Nat} {zs : List Int} (hl : len ≤ cap) (hm : cap ≤ maxLen) (hz : zs.length = cap)
    (h : ∀ i, i < zs.length → w.cell? (a.add i) = some (.int k (zs.getD i 0))) (hwz : ∀ n ∈ zs, (Lit.int k n).wf = true) : IsInts k w (some a) len cap (fun i => zs.getD i 0) := by
  refine ⟨by simp, by omega, Row.of_cells (V := fun i => .int k (zs.getD i 0)) (by omega) h, fun i => ?_⟩
  show (Lit.int k (zs.getD i 0)).wf = true
  rw [List.getD_eq_getElem?_getD]
  cases e : zs[i]? with
  | none => exact wf_zero k
  | some s => exact hwz s (List.mem_of_getElem? e)

theorem clone_all (w : World) (a : Option Addr) (len cap : Nat) (V : Nat → Int) (hl : len ≤ 1048576) (ha : a = none → len = 0 ∧ cap = 0) (hc : Row w a len fun i => .int .u8 (V i)) :
    Calls Try.prog 6 #[.slice a len cap] w fun e w' => ∃ a' c', e = .returned (.slice a' len c') ∧ Row w' a' len (fun i => .int .u8 (V i)) ∧ Below w.heap.size w w' := by
  cases a with
  | none =>
    obtain ⟨rfl, rfl⟩ := ha rfl
    refine (clone_nil w).mono ?_
    rintro e w' ⟨rfl, rfl⟩
    exact ⟨none, 0, rfl, fun h => by omega, Below.refl _ _⟩
  | some x =>
    have hcl : Cells w x len fun i => .int .u8 (V i) := by
      refine ⟨fun h0 => ?_, fun i hi => ?_⟩
      · obtain ⟨b, off, e, _⟩ := hc h0; cases e; rfl
      · obtain ⟨b, off, e, h⟩ := hc (by omega); cases e; exact h i hi
    refine (clone w x len cap V hl hcl).mono ?_
    rintro e w' ⟨rfl, rfl⟩
    refine ⟨_, _, rfl, fun h0 => ⟨_, _, rfl, fun i hi => ?_⟩, (Below.refl _ _).alloc (Nat.le_refl _) _⟩
    exact (Cells.made w len (fun i => .int .u8 (V i)) 5).2 i hi
def SomeBool (w : World) (e : Ending) (w' : World) : Prop := (∃ b, e = .returned (.bool b)) ∧ w = w'
def Yes (w : World) (e : Ending) (w' : World) : Prop := e = .returned (.bool true) ∧ Below w.heap.size w w'
theorem bytes12 (w : World) (a : Option Addr) (len cap : Nat) : Calls Try.prog 12 #[.slice a len cap] w (SomeBool w) := by
  go_enter Try.func12, Try.ntmps12
  go_wp2
  all_goals (go_ret; exact ⟨⟨_, rfl⟩, rfl⟩)

def z256 : Array Value := Array.replicate 256 (.pointer none)
theorem zero28 (w : World) : (zeroValue 28).run Try.prog w = .ok (.agg z256) w := by kernel_rfl
def f256 : Array Value := Array.replicate 256 (.bool false)
theorem zero34 (w : World) : (zeroValue 34).run Try.prog w = .ok (.agg f256) w := by kernel_rfl
/-- The nodes' pointers, k of them laid. -/
def nd (B k p : Nat) : Value := if p < k then .pointer (some ⟨B + 1 + p, 0, none⟩) else .pointer none
theorem nodes_new (w : World) : RowG (w.alloc (.cells z256 28)) w.heap.size 28 256 (nd w.heap.size 0) := by
  have h := RowG.made w 28 z256 (nd w.heap.size 0) (fun p hp => by
    have hp' : p < 256 := by simpa [z256] using hp
    simp [z256, hp', nd])
  have hs : z256.size = 256 := by simp [z256]
  rw [hs] at h
  exact h
theorem seen_new (w : World) : RowG (w.alloc (.cells f256 34)) w.heap.size 34 256 (fun _ => .bool false) := by
  have h := RowG.made w 34 f256 (fun _ => .bool false) (fun p hp => by
    have hp' : p < 256 := by simpa [f256] using hp
    simp [f256, hp'])
  have hs : f256.size = 256 := by simp [f256]
  rw [hs] at h
  exact h
theorem nd_set {w : World} {B k : Nat} (hk : k < 256) (h : RowG w B 28 256 (nd B k)) : RowG (w.setCell ⟨B, k, none⟩ (.pointer (some ⟨B + 1 + k, 0, none⟩))) B 28 256 (nd B (k + 1)) := by
  refine (h.set k _).ext fun p _ => ?_
  unfold nd
  by_cases e : p = k
  · subst e; simp
  · simp only [e, if_false]
    by_cases h2 : p < k
    · rw [if_pos h2, if_pos (by omega)]
    · rw [if_neg h2, if_neg (by omega)]
theorem seen_set {w : World} {C k : Nat} {sn : Nat → Bool} (h : RowG w C 34 256 (fun p => .bool (sn p))) : RowG (w.setCell ⟨C, k, none⟩ (.bool true)) C 34 256 (fun p => .bool (if p = k then true else sn p)) := by
  refine (h.set k _).ext fun p _ => ?_
  by_cases e : p = k
  · simp [e]
  · simp [e]
theorem inj_plus (B : Nat) : Inj (fun p => B + 1 + p) := fun p q _ _ h => by simpa using h
theorem RowG.touch {w w' : World} {g N : Nat} {T : TypeId} {G : Nat → Value} {F : Nat → Prop} (h : RowG w g T N G) (ht : Touch F w w') (hg : ¬ F g) : RowG w' g T N G := h.of_block (ht.block g h.lt hg)

/-- How the table stands behind j calls: nil, or block b with as many entries as nodes have been seen. -/
def Tab (w : World) (B C g : Nat) (sn : Nat → Bool) (n : Nat) (m : Option Nat) : Prop :=
  Pa w g m ∧ ((m = none ∧ n = 0 ∧ ∀ p, sn p = false) ∨ ∃ b M, m = some b ∧ C < b ∧ MapIs w b (Nodes fun p => B + 1 + p) n M ∧ ∀ p, p < 256 → (M (key (fun p => B + 1 + p) p)).isSome = sn p)

set_option maxRecDepth 100000 in
set_option maxHeartbeats 8000000 in
theorem main4 (w : World) (a0 : Option Addr) (len cap : Nat) (V : Nat → Int) (hi : IsInts .u8 w a0 len cap V) :
    Calls Try.prog 4 #[.slice a0 len cap] w (Yes w) := by
  have HI := Lib.hid hi
  clear hi
  have hz28 := zero28
  have hz34 := zero34
  go_enter Try.func4, Try.ntmps4
  go_wp2_with fail
  refine (bytes12 w a0 len cap).mono ?_
  rintro e w' ⟨⟨b, rfl⟩, rfl⟩
  cases b
  · go_simp
    go_wp2_with fail
    go_ret
    exact ⟨rfl, Below.refl _ _⟩
  by_cases g1 : len ≤ 65536
  rotate_left
  · have t1 : decide ((65536 : Int) < (len : Int)) = true := by simp; omega
    clear g1
    go_simp
    go_wp2_with fail
    go_ret
    exact ⟨rfl, Below.refl _ _⟩
  have t1 : decide ((65536 : Int) < (len : Int)) = false := by simp; omega
  go_simp
  go_wp2_with fail
  refine (clone_all w a0 len cap V (by omega) HI.out.1 HI.out.2.2.1).mono ?_
  rintro e w1 ⟨a1, c1, rfl, hr1, hb1⟩
  have R1 := Lib.hid hr1
  have B1 := Lib.hid hb1
  clear hr1 hb1 t1
  go_simp
  go_wp2_with fail
  refine (newPa w1).mono ?_
  rintro e w2 ⟨rfl, hp2, hb2, hs2⟩
  have P2 := Lib.hid hp2
  have B2 := Lib.hid hb2
  have S2 := Lib.hid hs2
  clear hp2 hb2 hs2
  generalize hg : w1.heap.size = g at *
  have HG := Lib.hid hg
  clear hg
  go_simp
  go_wp2_with fail
  have N3 := Lib.hid (nodes_new w2)
  have B3 := Lib.hid (show Below w2.heap.size w2 (w2.alloc (.cells z256 28)) from (Below.refl _ _).alloc (Nat.le_refl _) _)
  have S3 : Hid ((w2.alloc (.cells z256 28)).heap.size = w2.heap.size + 1) := Lib.hid (by simp)
  generalize w2.alloc (.cells z256 28) = w3 at *
  generalize hB : w2.heap.size = B at *
  have HB := Lib.hid hB
  clear hB hz28
  go_loopw [5] (fun v wr => ∃ k : Nat, k ≤ 256 ∧ v = .int .i64 k ∧ RowG wr B 28 256 (nd B k) ∧ wr.heap.size = B + 1 + k ∧ (∀ p, p < k → wr.heap[B + 1 + p]? = some (.cells #[.float .f64 0] 164 (0, 0))) ∧ Below B w2 wr) (fun v _ => 256 - (intOf v).toNat)
  case atStart => exact ⟨0, by omega, rfl, N3.out, by have := S3.out; omega, fun p hp => by omega, B3.out⟩
  case round =>
    clear N3 B3 S3
    obtain ⟨k, hk, rfl, hR, hS, hN, hBl⟩ := hrel
    have HR := Lib.hid hR
    have HS := Lib.hid hS
    have HN := Lib.hid hN
    have HBl := Lib.hid hBl
    clear hR hS hN hBl
    by_cases hlt : k < 256
    · go_wp2_with fail
      refine (newN _ _).mono ?_
      rintro e w4 ⟨rfl, hw4⟩
      have R4 := Lib.hid (show RowG w4 B 28 256 (nd B k) by rw [← hw4]; exact HR.out.alloc _)
      have B4 := Lib.hid (show Below B w2 w4 by rw [← hw4]; exact HBl.out.alloc (by rw [HS.out]; omega) _)
      have N4 : Hid (∀ p, p < k + 1 → w4.heap[B + 1 + p]? = some (.cells #[.float .f64 0] 164 (0, 0))) := Lib.hid (by
        intro p hp
        rw [← hw4]
        by_cases e : p = k
        · subst e; rw [← HS.out]; exact heap_alloc_new wr _
        · have := HN.out p (by omega)
          rw [Below.heap_alloc _ _ _ (lt_of_block this)]; exact this)
      have S4 : Hid (w4.heap.size = B + 1 + (k + 1)) := Lib.hid (by rw [← hw4]; have := HS.out; simp; omega)
      clear hw4
      rw [HS.out]
      have c1 := R4.out.cell hlt
      have c2 := R4.out.frozen k
      have hn0 : nd B k k = .pointer none := by simp [nd]
      rw [hn0] at c1
      clear hn0
      go_simp
      go_wp2_with fail
      go_roundw
      case rel => exact ⟨k + 1, by omega, by go_num, nd_set hlt R4.out, by have := S4.out; simpa using this, fun p hp => by rw [Below.heap_setCell _ _ _ _ (by simp; omega)]; exact N4.out p hp, B4.out.setCell (Nat.le_refl _) _⟩
      case measure => simp [intOf]; omega
    · obtain rfl : k = 256 := by omega
      rw [show ((256 : Nat) : Int) = 256 from rfl]
      go_wp2_with fail
      have hgB : g < B := by have := P2.out.lt; rw [HB.out] at this; exact this
      have SN : Hid (RowG (wr.alloc (.cells f256 34)) (B + 257) 34 256 (fun _ => .bool false)) := Lib.hid (by have := seen_new wr; rw [HS.out] at this; exact this)
      have RN : Hid (RowG (wr.alloc (.cells f256 34)) B 28 256 (nd B 256)) := Lib.hid (HR.out.alloc _)
      have NN : Hid (NodesAt (wr.alloc (.cells f256 34)) (fun p => B + 1 + p)) := Lib.hid (fun p hp => by
        have := HN.out p hp
        rw [Below.heap_alloc _ _ _ (lt_of_block this)]; exact this)
      have BN : Hid (Below B w2 (wr.alloc (.cells f256 34))) := Lib.hid (HBl.out.alloc (by rw [HS.out]; omega) _)
      have PN : Hid (Pa (wr.alloc (.cells f256 34)) g none) := Lib.hid (P2.out.of_block (BN.out.block g hgB))
      have ZN : Hid ((wr.alloc (.cells f256 34)).heap.size = B + 258) := Lib.hid (by have := HS.out; simp; omega)
      rw [HS.out]
      clear HR HS HN HBl hz34
      generalize wr.alloc (.cells f256 34) = w5 at *
      rw [show B + 1 + 256 = B + 257 by omega]
      clear hk
      go_simp
      go_loopw [7, 8] (fun d i wr => ∃ (j n : Nat) (sn : Nat → Bool) (m : Option Nat), j ≤ len ∧ n ≤ j ∧ i = .int .i64 j ∧ d = .int .i64 n ∧ (j = 0 ↔ m = none) ∧ RowG wr (B + 257) 34 256 (fun p => .bool (sn p)) ∧ Tab wr B (B + 257) g sn n m ∧ Touch (fun k => k = g ∨ B + 256 < k) w5 wr) (fun d i _ => len - (intOf i).toNat)
      case atStart => exact ⟨0, 0, fun _ => false, none, by omega, by omega, rfl, rfl, by simp, SN.out, ⟨PN.out, .inl ⟨rfl, rfl, fun _ => rfl⟩⟩, Touch.refl _ _⟩
      case round =>
        clear SN PN
        obtain ⟨j, n, sn, m, hj, hnj, rfl, rfl, hjm, hSn, hTab, hT⟩ := hrel
        have HSn := Lib.hid hSn
        have HTab := Lib.hid hTab
        have HT := Lib.hid hT
        have HJM := Lib.hid hjm
        clear hSn hTab hT hjm
        have NW : Hid (NodesAt wr (fun p => B + 1 + p)) := Lib.hid (fun p hp => (HT.out.block _ (lt_of_block (NN.out p hp)) (by simp; omega)).trans (NN.out p hp))
        have RW : Hid (RowG wr B 28 256 (nd B 256)) := Lib.hid (RN.out.touch HT.out (by simp; omega))
        have BW : Hid (Below g w1 wr) := Lib.hid (by
          have h1 : Below g w1 w5 := B2.out.trans (BN.out.mono (by omega))
          exact h1.trans (HT.out.below (by rw [ZN.out]; omega) (by rintro k (h | h) <;> omega)))
        by_cases hlt2 : j < len
        · have hv : 0 ≤ V j ∧ V j ≤ 255 := by simpa [Lit.wf, IntKind.min, IntKind.max, IntKind.signed, IntKind.bits] using HI.out.2.2.2 j
          obtain ⟨b, off, e, hcell⟩ := (R1.out.below (by rw [HG.out]; exact BW.out)) (by omega)
          cases e
          have c1 : wr.cell? ⟨b, off + j, none⟩ = some (.int .u8 (V j)) := hcell j hlt2
          clear hcell
          obtain ⟨q, hq⟩ : ∃ q : Nat, V j = (q : Int) := ⟨(V j).toNat, by omega⟩
          rw [hq] at c1 hv
          have hq2 : q < 256 := by omega
          clear hq
          have c2 := RW.out.cell hq2
          rw [show nd B 256 q = .pointer (some ⟨B + 1 + q, 0, none⟩) by simp [nd, hq2]] at c2
          go_wp2_with fail
          have HC : Hid (∃ n' b' M', Calls Try.prog 9 #[.pointer (some ⟨g, 0, none⟩), .pointer (some ⟨B + 1 + q, 0, none⟩)] wr (RecP wr g (fun p => B + 1 + p) q n M' b') ∧ (n' = if sn q then n else n + 1) ∧ (m = none → b' = wr.heap.size ∧ n = 0 ∧ M' = fun _ => none) ∧ (∀ b, m = some b → b' = b) ∧ B + 257 < b' ∧ (∀ p, p < 256 → (M' (key (fun p => B + 1 + p) p)).isSome = sn p)) := Lib.hid (by
            obtain ⟨hPa, hm⟩ := HTab.out
            rcases hm with ⟨rfl, rfl, hs⟩ | ⟨b, M, rfl, hb, hM, hs⟩
            · refine ⟨_, wr.heap.size, fun _ => none, rec9 _ _ (fun p => B + 1 + p) q 0 _ _ (rec13n wr g (fun p => B + 1 + p) q hq2 (inj_plus B) NW.out hPa (fun p _ => by show B + 1 + p ≠ g; omega)), rfl, fun _ => ⟨rfl, rfl, rfl⟩, fun b h => (by cases h), ?_, fun p hp => by simp [hs p]⟩
              have := HT.out.size; rw [ZN.out] at this; omega
            · exact ⟨_, b, M, rec9 _ _ (fun p => B + 1 + p) q n _ _ (rec13 wr g b (fun p => B + 1 + p) q n M hq2 (inj_plus B) NW.out hPa hM (by omega)), rfl, fun h => (by cases h), fun b' h => (by cases h; rfl), hb, hs⟩)
          obtain ⟨n', b', M', hcall, hn', hm1, hm2, hb', hM'⟩ := HC.out
          refine hcall.mono ?_
          clear hcall HC
          rintro e w6 ⟨rfl, hPa6, hM6, hT6⟩
          have hMq := hM' q hq2
          have e1 : (if (M' (key (fun p => B + 1 + p) q)).isSome = true then n else n + 1) = n' := by rw [hn', hMq]
          rw [e1] at hM6
          have hbS : ∀ k, (k = g ∨ k = b') → k = g ∨ B + 256 < k := by rintro k (h | h) <;> omega
          have HT6 := Lib.hid (HT.out.trans (hT6.mono (fun k _ h => hbS k h)))
          have HSn6 := Lib.hid (HSn.out.touch hT6 (by simp; omega))
          have HPa6 := Lib.hid hPa6
          have HM6 := Lib.hid hM6
          have HN' := Lib.hid hn'
          have HMs : Hid (∀ p, p < 256 → (upd M' (key (fun p => B + 1 + p) q) (.agg #[.int .i32 0, .int .i32 0]) (key (fun p => B + 1 + p) p)).isSome = if p = q then true else sn p) := Lib.hid (by
            intro p hp
            by_cases e : p = q
            · subst e; rw [upd_same]; simp
            · rw [upd_other _ _ (fun h => e (key_inj (inj_plus B) hp hq2 h)), hM' p hp, if_neg e])
          have HM2 := Lib.hid hm2
          clear hPa6 hM6 hT6 hn' hm1 hm2 hM' hMq e1 hbS
          have s1 := HSn6.out.cell hq2
          have s2 := HSn6.out.frozen q
          have hnle : n ≤ 65536 := by omega
          cases hsq : sn q with
          | true =>
            have HSq := Lib.hid hsq
            rw [hsq] at s1
            have hn1 : n' = n := by rw [HN'.out, hsq]; rfl
            subst hn1
            clear hsq
            go_simp
            go_wp2_with fail
            refine (count11 w6 g b' (fun p => B + 1 + p) n' _ HPa6.out HM6.out).mono ?_
            rintro e w' ⟨rfl, rfl⟩
            go_simp
            go_wp2_with fail
            go_roundw
            case rel =>
              refine ⟨j + 1, n', sn, some b', by omega, by omega, by go_num, rfl, by simp, HSn6.out, ⟨HPa6.out, .inr ⟨b', _, rfl, hb', HM6.out, fun p hp => ?_⟩⟩, HT6.out⟩
              rw [HMs.out p hp]
              by_cases e : p = q
              · subst e; simp [HSq.out]
              · rw [if_neg e]
            case measure => simp [intOf]; omega
          | false =>
            have HSq := Lib.hid hsq
            rw [hsq] at s1
            have hn1 : n' = n + 1 := by rw [HN'.out, hsq]; rfl
            subst hn1
            clear hsq
            go_simp
            go_wp2_with fail
            refine (count11 (w6.setCell ⟨B + 257, q, none⟩ (.bool true)) g b' (fun p => B + 1 + p) (n + 1) _ (HPa6.out.of_block (Below.heap_setCell _ _ _ _ (by simp; omega))) (HM6.out.setCell _ _ (by simp; omega))).mono ?_
            rintro e w' ⟨rfl, rfl⟩
            go_simp
            go_wp2_with fail
            go_roundw
            case rel =>
              refine ⟨j + 1, n + 1, fun p => if p = q then true else sn p, some b', by omega, by omega, by go_num, by go_num, by simp, seen_set HSn6.out, ⟨HPa6.out.of_block (Below.heap_setCell _ _ _ _ (by simp; omega)), .inr ⟨b', _, rfl, hb', HM6.out.setCell _ _ (by simp; omega), fun p hp => ?_⟩⟩, HT6.out.setCell _ (fun _ => .inr (by simp)) _⟩
              rw [HMs.out p hp]
            case measure => simp [intOf]; omega
        · obtain rfl : j = len := by omega
          have BF : Hid (Below w.heap.size w wr) := Lib.hid (B1.out.trans (BW.out.mono (by rw [← HG.out]; exact B1.out.size)))
          obtain ⟨hPa, hm⟩ := HTab.out
          have HPa := Lib.hid hPa
          clear hPa
          cases m with
          | none =>
            have hj0 : j = 0 := HJM.out.2 rfl
            subst hj0
            clear hm
            go_simp
            go_wp2_with fail
            refine (isnil10 wr g none HPa.out).mono ?_
            rintro e w' ⟨rfl, rfl⟩
            go_simp
            go_wp2_with fail
            go_ret
            exact ⟨rfl, BF.out⟩
          | some b =>
            have hj0 : j ≠ 0 := fun h => by have := HJM.out.1 h; cases this
            have t2 : ((j : Int) == 0) = false := by rw [beq_eq_false_iff_ne]; omega
            have HMM : Hid (∃ M, MapIs wr b (Nodes fun p => B + 1 + p) n M) := Lib.hid (by
              rcases hm with ⟨h, _⟩ | ⟨b', M, h, _, hM, _⟩
              · cases h
              · cases h; exact ⟨M, hM⟩)
            obtain ⟨M, hM⟩ := HMM.out
            have HM := Lib.hid hM
            clear hM HMM hm hj0
            go_wp2_with fail
            refine (isnil10 wr g (some b) HPa.out).mono ?_
            rintro e w' ⟨rfl, rfl⟩
            go_simp
            go_wp2_with fail
            refine (count11 wr g b (fun p => B + 1 + p) n M HPa.out HM.out).mono ?_
            rintro e w' ⟨rfl, rfl⟩
            go_simp
            go_wp2_with fail
            go_ret
            exact ⟨rfl, BF.out⟩
end Go.Proofs.Ytmfmdegekilgmaa.lo
