/-
  The walk of the statement's fold.
-/
import Derived.Test.YtkanbfphbgoekaaDoorWt
namespace Go.Proofs.YtkanbfphbgoekaaDoor.mi
open Go.ChangeShapes Go.WideShapes Go.ChangeAt Go.RowKit Go.Deep Go.Shelf Go.Lib Go.Proofs.YtkanbfphbgoekaaDoor.pl
set_option linter.unusedVariables false
set_option linter.unusedSimpArgs false
set_option maxRecDepth 100000
set_option maxHeartbeats 40000000
def bys (l : List UInt8) : List Value := l.map fun b => Value.int .u8 (b.toNat : Int)
theorem own_alloc {w : World} {B n : Nat} {v : Value} {xs : List Value} (h : w.ownsRow B 5 1 v n xs) (o : Obj) : (w.alloc o).ownsRow B 5 1 v n xs := by
  refine ⟨h.1, ?_⟩
  rcases h.2 with h0 | ⟨g, cap, cur, hv, hg, hb, r⟩
  · exact .inl h0
  · exact .inr ⟨g, cap, cur, hv, hg, (heap_alloc_old _ _ (lt_of_block hb)).trans hb, r⟩
theorem news1 (wr : World) (c : Int) : ∀ i x, ([Value.int .u8 c] : List Value)[i]? = some x → (wr.alloc (.cells #[.int .u8 c] 5)).cell? ((⟨wr.heap.size, 0, none⟩ : Addr).add i) = some x := by
  intro i x hx
  cases i with
  | zero =>
    rw [Go.WideShapes.add_plain]
    exact ((cell_of_row _ _ 0 _ _ _ (heap_alloc_new _ _)).trans rfl).trans hx
  | succ i => simp at hx
theorem grown_below {w wr w' : World} {n : Nat} {v : Value} {xs : List Value} {o : Obj} (hs : w.heap.size ≤ wr.heap.size) (h : wr.ownsRow w.heap.size 5 1 v n xs) (hg : (wr.alloc o).grownBy w' v.ownBlock) : Below w.heap.size (wr.alloc o) w' :=
  ⟨hg.os, hg.tape, hg.output, hg.size, fun q hq => hg.block q (by simp; omega) (fun e => by
    rcases h.2 with ⟨rfl, h0⟩ | ⟨g, cap, cur, rfl, hgg, hbk, r⟩
    · cases e
    · simp only [Value.ownBlock, Option.some.injEq] at e; omega)⟩
theorem own_snoc {w' : World} {B n : Nat} {v' : Value} {out : List UInt8} {c : UInt8} {z : Int} (h : w'.ownsRow B 5 1 v' (n + 1) (bys out ++ [.int .u8 z])) (hn : n = out.length := by rfl) (hz : z = (c.toNat : Int) := by first | rfl | decide) : w'.ownsRow B 5 1 v' (out ++ [c]).length (bys (out ++ [c])) := by
  subst hn hz
  have e : bys (out ++ [c]) = bys out ++ [.int .u8 (c.toNat : Int)] := by simp [bys]
  rw [e, List.length_append]
  exact h
theorem fd_step {A B : Option (List UInt8)} {C : Option (List UInt8)} {out : List UInt8} {c : UInt8} (h : A = B.map (out ++ ·)) (hB : B = C.map (c :: ·)) : A = C.map ((out ++ [c]) ++ ·) := by
  rw [h, hB, Option.map_map]
  congr 1
  funext x
  simp
theorem fd_nil (f : Nat) : fd f [] = some [] := by cases f <;> simp [fd]
theorem bt_drop (s : ByteArray) (p j : Nat) (h : p + j < s.size) : (s[p + j]'h).toNat = bt (s.data.toList.drop p) j := by
  have h2 : p + j < s.data.toList.length := by simpa using h
  have h3 : (s.data.toList.drop p)[j]? = some (s.data.toList[p + j]) := by rw [List.getElem?_drop, List.getElem?_eq_getElem h2]
  rw [bt_some h3]
  rfl
def foldV (l : List UInt8) : Value := match fd l.length l with | some m => .tuple #[Str m, .bool true] | none => .tuple #[.string ⟨#[]⟩, .bool false]
def FoldP (w : World) (s : ByteArray) (e : Ending) (w' : World) : Prop := e = .returned (foldV s.data.toList) ∧ Below w.heap.size w w'
theorem info5i : ∃ i z, Tryd.prog.info? 5 = some i ∧ i.zero = some z ∧ z.cells.size = 1 ∧ i.size = 1 ∧ i.bytes = 1 := by
  obtain ⟨i, hi, hz⟩ := Option.map_eq_some_iff.1 info5
  simp only [Prod.mk.injEq] at hz
  obtain ⟨h1, h2, h3⟩ := hz
  exact ⟨i, _, hi, h1, by simp [Value.cells], h2, h3⟩
theorem mk28 (w : World) (k : Nat) (hk : k ≤ 1048576) : ∃ v w', (Instr.makeSlice 28 (.int .i64 0) (.int .i64 k)).run Tryd.prog w = .ok v w' ∧ w'.ownsRow w.heap.size 5 1 v 0 (bys []) ∧ Below w.heap.size w w' := by
  obtain ⟨i, z0, e1, e2, e3, e4, e5⟩ := info5i
  have hr := run_make (P := Tryd.prog) w 28 5 i z0 Tryd.underlying28 e1 e2 .i64 .i64 0 k (by omega) (by omega) (by rw [e5]; omega) (by omega)
  refine ⟨_, _, hr, ⟨by simp [bys], .inr ⟨w.heap.size, k, madeCells z0.cells (k * i.size), rfl, Nat.le_refl _, heap_alloc_new _ _, by omega, by unfold maxLen; omega, by rw [size_madeCells, e4], by simp [bys]⟩⟩, (Below.refl _ _).alloc (Nat.le_refl _) _⟩
theorem conv_own {w : World} {B : Nat} {v : Value} {out : List UInt8} (h : w.ownsRow B 5 1 v out.length (bys out)) : (convert 28 9 v).run Tryd.prog w = .ok (Str out) w := by
  rcases h.2 with ⟨rfl, h0⟩ | ⟨g, cap, cur, rfl, hg, hb, hnc, hcm, hsz, htk⟩
  · have : out = [] := List.eq_nil_of_length_eq_zero h0
    subst this
    exact run_convert_bytes_nil (P := Tryd.prog) (w := w) 28 5 Tryd.underlying28 Tryd.underlying5 0 0 9 Tryd.underlying9
  · have hx := run_convert_bytes_arg (P := Tryd.prog) (w := w) 28 5 Tryd.underlying28 Tryd.underlying5 g 0 out.length cap (out.map fun b => (b.toNat : Int)) (by simp) (fun i hi => by
      have hi : i < out.length := by simpa using hi
      rw [cell_of_row _ _ (0 + i) _ _ _ hb, Nat.zero_add]
      have h1 : (cur.toList.take (out.length * 1))[i]? = some (.int .u8 ((out[i]).toNat : Int)) := by rw [htk]; simp [bys, hi]
      rw [List.getElem?_take, if_pos (by omega)] at h1
      simpa [hi] using h1) 9 Tryd.underlying9
    rw [hx]
    congr 1
    unfold Str strOfNums
    congr 1
    congr 1
    have e : ((fun n : Int => UInt8.ofNat n.toNat) ∘ fun b : UInt8 => (b.toNat : Int)) = id := by funext b; simp
    simp [List.map_map, e]
theorem fold9 (w : World) (s : ByteArray) (hs : s.size ≤ 1048576) : Calls Tryd.prog 9 #[.string s] w (FoldP w s) := by
  obtain ⟨v0, w0, hmk, ho0, hb0⟩ := mk28 w s.size hs
  obtain ⟨i5, z5, i1, i2, i3, i4, i5'⟩ := info5i
  have HO0 := Lib.hid ho0
  have HB0 := Lib.hid hb0
  obtain ⟨L, hL⟩ : ∃ L, s.data.toList = L := ⟨_, rfl⟩
  have hLs : L.length = s.size := by rw [← hL]; simp
  have HL := Lib.hid hL
  have hbt : ∀ p j (h : p + j < s.size), (s[p + j]'h).toNat = bt (L.drop p) j := fun p j h => by rw [← hL]; exact bt_drop s p j h
  have HBT := Lib.hid hbt
  unfold FoldP
  rw [hL]
  clear ho0 hb0 hL hbt
  go_enter Tryd.func9, Tryd.ntmps9
  go_wp2_with fail
  clear hmk
  go_loopw [4, 5] (fun v i wr => ∃ (p : Nat) (out : List UInt8) (f : Nat), p ≤ s.size ∧ i = .int .i64 p ∧ wr.ownsRow w.heap.size 5 1 v out.length (bys out) ∧ Below w.heap.size w wr ∧ s.size ≤ p + f ∧ fd L.length L = (fd f (L.drop p)).map (out ++ ·) ∧ out.length ≤ p) (fun _ i _ => s.size - (intOf i).toNat)
  case atStart => exact ⟨0, [], L.length, by omega, rfl, HO0.out, HB0.out, by omega, by simp, by simp⟩
  case round =>
    obtain ⟨p, out, f, hp, rfl, hO, hB, hf, hF, hlen⟩ := hrel
    rename World => wr
    have HO := Lib.hid hO
    have HB := Lib.hid hB
    have HF := Lib.hid hF
    have HLEN := Lib.hid hlen
    clear hO hB hF HO0 HB0
    by_cases hlt : p < s.size
    · obtain ⟨f, rfl⟩ : ∃ f', f = f' + 1 := ⟨f - 1, by omega⟩
      have hx0 : s[p].toNat = bt (L.drop p) 0 := HBT.out p 0 hlt
      have hne : L.drop p ≠ [] := by
        intro h
        have := congrArg List.length h
        simp at this
        omega
      have hlen2 : (L.drop p).length = s.size - p := by rw [List.length_drop, hLs]
      have hdd : ∀ k, (L.drop p).drop k = L.drop (p + k) := fun k => by rw [List.drop_drop]
      have hx0l : bt (L.drop p) 0 < 256 := by rw [← hx0]; exact s[p].toNat_lt
      have HNE := Lib.hid hne
      have HDD := Lib.hid hdd
      have HL2 := Lib.hid hlen2
      obtain ⟨x, hx⟩ : ∃ x, bt (L.drop p) 0 = x := ⟨_, rfl⟩
      have HX := Lib.hid hx
      rw [hx] at hx0 hx0l
      clear hne hdd hlen2 hx
      by_cases g128 : x < 128
      · have d128 : decide ((x : Int) < 128) = true := by simp; omega
        have HA : Hid (fd (f + 1) (L.drop p) = (fd f (L.drop (p + 1))).map (UInt8.ofNat (cs false x) :: ·)) := Lib.hid (by simp only [fd, if_neg HNE.out, HX.out, if_pos g128, HDD.out])
        have hcn : (UInt8.ofNat (cs false x)).toNat = cs false x := by simp [Nat.mod_eq_of_lt (cs_lt (up := false) hx0l)]
        have HCN := Lib.hid hcn
        clear hcn
        by_cases g : 65 ≤ x ∧ x ≤ 90
        · have d1 : decide ((65 : Int) ≤ (x : Int)) = true := by simp; omega
          have d2 : decide ((x : Int) ≤ 90) = true := by simp; omega
          have f1 : IntKind.u8.wrap ((x : Int) + 32) = (x : Int) + 32 := Go.IntWalk.u8_in _ (by omega)
          have HC : Hid ((x : Int) + 32 = ((UInt8.ofNat (cs false x)).toNat : Int)) := Lib.hid (by rw [HCN.out]; unfold cs; rw [if_neg (by simp), if_pos g]; omega)
          clear g g128
          have HOX : Hid ((wr.alloc (.cells #[.int .u8 ((x : Int) + 32)] 5)).ownsRow w.heap.size 5 1 u4 out.length (bys out)) := Lib.hid (own_alloc HO.out _)
          have HNW : Hid (∀ (i : Nat) (y9 : Value), ([Value.int .u8 ((x : Int) + 32)] : List Value)[i]? = some y9 → (wr.alloc (.cells #[.int .u8 ((x : Int) + 32)] 5)).cell? ((⟨wr.heap.size, 0, none⟩ : Addr).add i) = some y9) := Lib.hid (news1 wr ((x : Int) + 32))
          have hbw : w.heap.size ≤ (wr.alloc (.cells #[.int .u8 ((x : Int) + 32)] 5)).heap.size := by have := HB.out.size; simp; omega
          go_wp2_with (at_builtin; refine wpList_append_own_at _ rfl (.tmp 27) (.tmp 29) 28 rfl w.heap.size 5 i5 z5 1 1 Tryd.underlying28 i1 i2 i4 i5' i3 (by decide) u4 out.length (bys out) rfl HOX.out ⟨wr.heap.size, 0, none⟩ 1 1 [.int .u8 ((x : Int) + 32)] rfl rfl HNW.out (by intro x hx; simp at hx; subst hx; rfl) (by unfold maxLen; omega) (by omega) hbw ?_; intro v' w' hS' hgr hno hno2; clear hno hno2)
          have HB2 : Hid (Below w.heap.size w w') := Lib.hid ((HB.out.alloc HB.out.size _).trans (grown_below HB.out.size HO.out hgr))
          have HO2 : Hid (w'.ownsRow w.heap.size 5 1 v' (out ++ [UInt8.ofNat (cs false x)]).length (bys (out ++ [UInt8.ofNat (cs false x)]))) := Lib.hid (own_snoc hS' rfl HC.out)
          have HF2 : Hid (fd L.length L = (fd f (L.drop (p + 1))).map ((out ++ [UInt8.ofNat (cs false x)]) ++ ·)) := Lib.hid (fd_step HF.out HA.out)
          clear hS' hgr HB HO HF HOX HNW
          go_roundw
          case rel => exact ⟨p + 1, out ++ [UInt8.ofNat (cs false x)], f, by omega, by go_num, HO2.out, HB2.out, by omega, HF2.out, by have := HLEN.out; simp; omega⟩
          case measure => simp [intOf]; omega
        · have HC : Hid ((x : Int) = ((UInt8.ofNat (cs false x)).toNat : Int)) := Lib.hid (by rw [HCN.out]; unfold cs; rw [if_neg (by simp), if_neg g])
          have HOX : Hid ((wr.alloc (.cells #[.int .u8 (x : Int)] 5)).ownsRow w.heap.size 5 1 u4 out.length (bys out)) := Lib.hid (own_alloc HO.out _)
          have HNW : Hid (∀ (i : Nat) (y9 : Value), ([Value.int .u8 (x : Int)] : List Value)[i]? = some y9 → (wr.alloc (.cells #[.int .u8 (x : Int)] 5)).cell? ((⟨wr.heap.size, 0, none⟩ : Addr).add i) = some y9) := Lib.hid (news1 wr (x : Int))
          have hbw : w.heap.size ≤ (wr.alloc (.cells #[.int .u8 (x : Int)] 5)).heap.size := by have := HB.out.size; simp; omega
          by_cases g1 : 65 ≤ x
          · have d1 : decide ((65 : Int) ≤ (x : Int)) = true := by simp; omega
            have d2 : decide ((x : Int) ≤ 90) = false := by simp; omega
            clear g g1 g128
            go_wp2_with (at_builtin; refine wpList_append_own_at _ rfl (.tmp 27) (.tmp 29) 28 rfl w.heap.size 5 i5 z5 1 1 Tryd.underlying28 i1 i2 i4 i5' i3 (by decide) u4 out.length (bys out) rfl HOX.out ⟨wr.heap.size, 0, none⟩ 1 1 [.int .u8 (x : Int)] rfl rfl HNW.out (by intro x hx; simp at hx; subst hx; rfl) (by unfold maxLen; omega) (by omega) hbw ?_; intro v' w' hS' hgr hno hno2; clear hno hno2)
            have HB2 : Hid (Below w.heap.size w w') := Lib.hid ((HB.out.alloc HB.out.size _).trans (grown_below HB.out.size HO.out hgr))
            have HO2 : Hid (w'.ownsRow w.heap.size 5 1 v' (out ++ [UInt8.ofNat (cs false x)]).length (bys (out ++ [UInt8.ofNat (cs false x)]))) := Lib.hid (own_snoc hS' rfl HC.out)
            have HF2 : Hid (fd L.length L = (fd f (L.drop (p + 1))).map ((out ++ [UInt8.ofNat (cs false x)]) ++ ·)) := Lib.hid (fd_step HF.out HA.out)
            clear hS' hgr HB HO HF HOX HNW
            go_roundw
            case rel => exact ⟨p + 1, out ++ [UInt8.ofNat (cs false x)], f, by omega, by go_num, HO2.out, HB2.out, by omega, HF2.out, by have := HLEN.out; simp; omega⟩
            case measure => simp [intOf]; omega
          · have d1 : decide ((65 : Int) ≤ (x : Int)) = false := by simp; omega
            clear g g1 g128
            go_wp2_with (at_builtin; refine wpList_append_own_at _ rfl (.tmp 27) (.tmp 29) 28 rfl w.heap.size 5 i5 z5 1 1 Tryd.underlying28 i1 i2 i4 i5' i3 (by decide) u4 out.length (bys out) rfl HOX.out ⟨wr.heap.size, 0, none⟩ 1 1 [.int .u8 (x : Int)] rfl rfl HNW.out (by intro x hx; simp at hx; subst hx; rfl) (by unfold maxLen; omega) (by omega) hbw ?_; intro v' w' hS' hgr hno hno2; clear hno hno2)
            have HB2 : Hid (Below w.heap.size w w') := Lib.hid ((HB.out.alloc HB.out.size _).trans (grown_below HB.out.size HO.out hgr))
            have HO2 : Hid (w'.ownsRow w.heap.size 5 1 v' (out ++ [UInt8.ofNat (cs false x)]).length (bys (out ++ [UInt8.ofNat (cs false x)]))) := Lib.hid (own_snoc hS' rfl HC.out)
            have HF2 : Hid (fd L.length L = (fd f (L.drop (p + 1))).map ((out ++ [UInt8.ofNat (cs false x)]) ++ ·)) := Lib.hid (fd_step HF.out HA.out)
            clear hS' hgr HB HO HF HOX HNW
            go_roundw
            case rel => exact ⟨p + 1, out ++ [UInt8.ofNat (cs false x)], f, by omega, by go_num, HO2.out, HB2.out, by omega, HF2.out, by have := HLEN.out; simp; omega⟩
            case measure => simp [intOf]; omega
      · have d128 : decide ((x : Int) < 128) = false := by simp; omega
        have a1 : IntKind.i64.wrap ((p : Int) + 1) = (p : Int) + 1 := Go.IntWalk.i64_in _ (by omega)
        have a2 : IntKind.i64.wrap ((p : Int) + 2) = (p : Int) + 2 := Go.IntWalk.i64_in _ (by omega)
        have G128 := Lib.hid g128
        clear g128
        have LEN := HL2.out
        by_cases g196 : x = 196
        · have c196 : ((x : Int) == 196) = true := by simp [g196]
          have c226 : ((x : Int) == 226) = false := by rw [g196]; decide
          have n3 : ¬ (x = 226 ∧ 2 < (L.drop p).length ∧ bt (L.drop p) 1 = 132 ∧ bt (L.drop p) 2 = 170) := fun h => by omega
          by_cases g1 : p + 1 < s.size
          · have e1 : decide ((p : Int) + 1 < (s.size : Int)) = true := by simp; omega
            have hx1 : s[p + 1].toNat = bt (L.drop p) 1 := HBT.out p 1 g1
            obtain ⟨y, hy⟩ : ∃ y, bt (L.drop p) 1 = y := ⟨_, rfl⟩
            have HY := Lib.hid hy
            rw [hy] at hx1 n3
            clear hy
            by_cases g2 : y = 176
            · have c176 : ((y : Int) == 176) = true := by simp [g2]
              have HA : Hid (fd (f + 1) (L.drop p) = (fd f (L.drop (p + 2))).map ((105 : UInt8) :: ·)) := Lib.hid (by
                have h : x = 196 ∧ 1 < (L.drop p).length ∧ y = 176 := ⟨g196, by omega, g2⟩
                simp only [fd, if_neg HNE.out, HX.out, HY.out, if_neg G128.out, if_pos h, HDD.out])
              clear n3 g196 g2 LEN
              have HOX : Hid ((wr.alloc (.cells #[.int .u8 105] 5)).ownsRow w.heap.size 5 1 u4 out.length (bys out)) := Lib.hid (own_alloc HO.out _)
              have HNW : Hid (∀ (i : Nat) (y9 : Value), ([Value.int .u8 105] : List Value)[i]? = some y9 → (wr.alloc (.cells #[.int .u8 105] 5)).cell? ((⟨wr.heap.size, 0, none⟩ : Addr).add i) = some y9) := Lib.hid (news1 wr 105)
              have hbw : w.heap.size ≤ (wr.alloc (.cells #[.int .u8 105] 5)).heap.size := by have := HB.out.size; simp; omega
              go_wp2_with (at_builtin; refine wpList_append_own_at _ rfl (.tmp 49) (.tmp 50) 28 rfl w.heap.size 5 i5 z5 1 1 Tryd.underlying28 i1 i2 i4 i5' i3 (by decide) u4 out.length (bys out) rfl HOX.out ⟨wr.heap.size, 0, none⟩ 1 1 [.int .u8 105] rfl rfl HNW.out (by intro x hx; simp at hx; subst hx; rfl) (by unfold maxLen; omega) (by omega) hbw ?_; intro v' w' hS' hgr hno hno2; clear hno hno2)
              have HB2 : Hid (Below w.heap.size w w') := Lib.hid ((HB.out.alloc HB.out.size _).trans (grown_below HB.out.size HO.out hgr))
              have HO2 : Hid (w'.ownsRow w.heap.size 5 1 v' (out ++ [(105 : UInt8)]).length (bys (out ++ [(105 : UInt8)]))) := Lib.hid (own_snoc hS')
              have HF2 : Hid (fd L.length L = (fd f (L.drop (p + 2))).map ((out ++ [(105 : UInt8)]) ++ ·)) := Lib.hid (fd_step HF.out HA.out)
              clear hS' hgr HB HO HF HOX HNW
              go_roundw
              case rel => exact ⟨p + 2, out ++ [(105 : UInt8)], f, by omega, by go_num, HO2.out, HB2.out, by omega, HF2.out, by have := HLEN.out; simp; omega⟩
              case measure => simp [intOf]; omega
            · have c176 : ((y : Int) == 176) = false := by simp; omega
              have n2 : ¬ (x = 196 ∧ 1 < (L.drop p).length ∧ y = 176) := fun h => g2 h.2.2
              have N2 := Lib.hid n2
              have N3 := Lib.hid n3
              clear n2 n3 g196 g2 LEN
              have HFN : Hid (fd L.length L = none) := Lib.hid (by
                have e : fd (f + 1) (L.drop p) = none := by simp only [fd, if_neg HNE.out, HX.out, HY.out, if_neg G128.out, if_neg N2.out, if_neg N3.out]
                rw [HF.out, e]; rfl)
              clear HF HO
              go_wp2_with fail
              go_ret2
              exact ⟨by unfold foldV; rw [HFN.out]; rfl, HB.out⟩
          · have e1 : decide ((p : Int) + 1 < (s.size : Int)) = false := by simp; omega
            have n2 : ¬ (x = 196 ∧ 1 < (L.drop p).length ∧ bt (L.drop p) 1 = 176) := fun h => by omega
            have N2 := Lib.hid n2
            have N3 := Lib.hid n3
            clear n2 n3 g196 LEN
            have HFN : Hid (fd L.length L = none) := Lib.hid (by
              have e : fd (f + 1) (L.drop p) = none := by simp only [fd, if_neg HNE.out, HX.out, if_neg G128.out, if_neg N2.out, if_neg N3.out]
              rw [HF.out, e]; rfl)
            clear HF HO
            go_wp2_with fail
            go_ret2
            exact ⟨by unfold foldV; rw [HFN.out]; rfl, HB.out⟩
        · have c196 : ((x : Int) == 196) = false := by simp; omega
          have n2 : ¬ (x = 196 ∧ 1 < (L.drop p).length ∧ bt (L.drop p) 1 = 176) := fun h => g196 h.1
          have N2 := Lib.hid n2
          clear n2 g196
          by_cases g226 : x = 226
          · have c226 : ((x : Int) == 226) = true := by simp [g226]
            by_cases g1 : p + 2 < s.size
            · have e1 : decide ((p : Int) + 2 < (s.size : Int)) = true := by simp; omega
              have hx1 : s[p + 1].toNat = bt (L.drop p) 1 := HBT.out p 1 (by omega)
              have hx2 : s[p + 2].toNat = bt (L.drop p) 2 := HBT.out p 2 g1
              obtain ⟨y, hy⟩ : ∃ y, bt (L.drop p) 1 = y := ⟨_, rfl⟩
              obtain ⟨z, hz⟩ : ∃ z, bt (L.drop p) 2 = z := ⟨_, rfl⟩
              have HY := Lib.hid hy
              have HZ := Lib.hid hz
              rw [hy] at hx1
              rw [hz] at hx2
              clear hy hz
              by_cases g2 : y = 132
              · have c132 : ((y : Int) == 132) = true := by simp [g2]
                by_cases g3 : z = 170
                · have c170 : ((z : Int) == 170) = true := by simp [g3]
                  have HA : Hid (fd (f + 1) (L.drop p) = (fd f (L.drop (p + 3))).map ((107 : UInt8) :: ·)) := Lib.hid (by
                    have h : x = 226 ∧ 2 < (L.drop p).length ∧ y = 132 ∧ z = 170 := ⟨g226, by omega, g2, g3⟩
                    have h2 := N2.out
                    rw [HY.out] at h2
                    simp only [fd, if_neg HNE.out, HX.out, HY.out, HZ.out, if_neg G128.out, if_neg h2, if_pos h, HDD.out])
                  clear g226 g2 g3 LEN
                  have HOX : Hid ((wr.alloc (.cells #[.int .u8 107] 5)).ownsRow w.heap.size 5 1 u4 out.length (bys out)) := Lib.hid (own_alloc HO.out _)
                  have HNW : Hid (∀ (i : Nat) (y9 : Value), ([Value.int .u8 107] : List Value)[i]? = some y9 → (wr.alloc (.cells #[.int .u8 107] 5)).cell? ((⟨wr.heap.size, 0, none⟩ : Addr).add i) = some y9) := Lib.hid (news1 wr 107)
                  have hbw : w.heap.size ≤ (wr.alloc (.cells #[.int .u8 107] 5)).heap.size := by have := HB.out.size; simp; omega
                  go_wp2_with (at_builtin; refine wpList_append_own_at _ rfl (.tmp 77) (.tmp 78) 28 rfl w.heap.size 5 i5 z5 1 1 Tryd.underlying28 i1 i2 i4 i5' i3 (by decide) u4 out.length (bys out) rfl HOX.out ⟨wr.heap.size, 0, none⟩ 1 1 [.int .u8 107] rfl rfl HNW.out (by intro x hx; simp at hx; subst hx; rfl) (by unfold maxLen; omega) (by omega) hbw ?_; intro v' w' hS' hgr hno hno2; clear hno hno2)
                  have HB2 : Hid (Below w.heap.size w w') := Lib.hid ((HB.out.alloc HB.out.size _).trans (grown_below HB.out.size HO.out hgr))
                  have HO2 : Hid (w'.ownsRow w.heap.size 5 1 v' (out ++ [(107 : UInt8)]).length (bys (out ++ [(107 : UInt8)]))) := Lib.hid (own_snoc hS')
                  have HF2 : Hid (fd L.length L = (fd f (L.drop (p + 3))).map ((out ++ [(107 : UInt8)]) ++ ·)) := Lib.hid (fd_step HF.out HA.out)
                  clear hS' hgr HB HO HF HOX HNW
                  go_roundw
                  case rel => exact ⟨p + 3, out ++ [(107 : UInt8)], f, by omega, by go_num, HO2.out, HB2.out, by omega, HF2.out, by have := HLEN.out; simp; omega⟩
                  case measure => simp [intOf]; omega
                · have c170 : ((z : Int) == 170) = false := by simp; omega
                  have N3 : Hid (¬ (x = 226 ∧ 2 < (L.drop p).length ∧ bt (L.drop p) 1 = 132 ∧ bt (L.drop p) 2 = 170)) := Lib.hid (fun h => g3 (HZ.out.symm.trans h.2.2.2))
                  clear g226 g2 g3 LEN
                  have HFN : Hid (fd L.length L = none) := Lib.hid (by
                    have e : fd (f + 1) (L.drop p) = none := by simp only [fd, if_neg HNE.out, HX.out, if_neg G128.out, if_neg N2.out, if_neg N3.out]
                    rw [HF.out, e]; rfl)
                  clear HF HO
                  go_wp2_with fail
                  go_ret2
                  exact ⟨by unfold foldV; rw [HFN.out]; rfl, HB.out⟩
              · have c132 : ((y : Int) == 132) = false := by simp; omega
                have N3 : Hid (¬ (x = 226 ∧ 2 < (L.drop p).length ∧ bt (L.drop p) 1 = 132 ∧ bt (L.drop p) 2 = 170)) := Lib.hid (fun h => g2 (HY.out.symm.trans h.2.2.1))
                clear g226 g2 LEN
                have HFN : Hid (fd L.length L = none) := Lib.hid (by
                  have e : fd (f + 1) (L.drop p) = none := by simp only [fd, if_neg HNE.out, HX.out, if_neg G128.out, if_neg N2.out, if_neg N3.out]
                  rw [HF.out, e]; rfl)
                clear HF HO
                go_wp2_with fail
                go_ret2
                exact ⟨by unfold foldV; rw [HFN.out]; rfl, HB.out⟩
            · have e1 : decide ((p : Int) + 2 < (s.size : Int)) = false := by simp; omega
              have N3 : Hid (¬ (x = 226 ∧ 2 < (L.drop p).length ∧ bt (L.drop p) 1 = 132 ∧ bt (L.drop p) 2 = 170)) := Lib.hid (fun h => by omega)
              clear g226 LEN
              have HFN : Hid (fd L.length L = none) := Lib.hid (by
                have e : fd (f + 1) (L.drop p) = none := by simp only [fd, if_neg HNE.out, HX.out, if_neg G128.out, if_neg N2.out, if_neg N3.out]
                rw [HF.out, e]; rfl)
              clear HF HO
              go_wp2_with fail
              go_ret2
              exact ⟨by unfold foldV; rw [HFN.out]; rfl, HB.out⟩
          · have c226 : ((x : Int) == 226) = false := by simp; omega
            have N3 : Hid (¬ (x = 226 ∧ 2 < (L.drop p).length ∧ bt (L.drop p) 1 = 132 ∧ bt (L.drop p) 2 = 170)) := Lib.hid (fun h => g226 h.1)
            clear g226 LEN
            have HFN : Hid (fd L.length L = none) := Lib.hid (by
              have e : fd (f + 1) (L.drop p) = none := by simp only [fd, if_neg HNE.out, HX.out, if_neg G128.out, if_neg N2.out, if_neg N3.out]
              rw [HF.out, e]; rfl)
            clear HF HO
            go_wp2_with fail
            go_ret2
            exact ⟨by unfold foldV; rw [HFN.out]; rfl, HB.out⟩
    · obtain rfl : p = s.size := by omega
      have hcv := conv_own HO.out
      have HFN : Hid (fd L.length L = some out) := Lib.hid (by
        have e : L.drop s.size = [] := by rw [← hLs]; simp
        rw [HF.out, e, fd_nil]; simp)
      clear HF HO
      go_wp2_with fail
      go_ret2
      exact ⟨by unfold foldV; rw [HFN.out]; rfl, HB.out⟩
end Go.Proofs.YtkanbfphbgoekaaDoor.mi
