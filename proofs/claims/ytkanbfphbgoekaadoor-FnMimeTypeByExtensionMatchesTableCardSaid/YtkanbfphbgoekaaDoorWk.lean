/-
  The walks: MimeTypeByExtension, the turn of ASCII letters, the statement.
-/
import Derived.Test.YtkanbfphbgoekaaDoorLa
import Derived.Lib.Hide
import Derived.WalkKit
import Derived.WalkLawsBesides
import Derived.Deep.OwnRows
import Derived.Laws.Rows
import Derived.WalkSpells
import Derived.Laws.Tables
import Derived.WalkSmall
import Derived.Outline
import Derived.BigQuiet
import Derived.Deep.QuietTactic
import Derived.Deep.RegionLaw
import Derived.Deep.CutBlock
import Derived.IntWalk
import Derived.OwnWalk
import Derived.Laws.BytesArg
import Derived.Laws.MakeOwn
import Derived.Laws.IdiomRangeMap
namespace Go.Proofs.YtkanbfphbgoekaaDoor.mi
open Go.ChangeShapes Go.WideShapes Go.ChangeAt Go.RowKit Go.Deep Go.Shelf Go.Lib Go.Proofs.YtkanbfphbgoekaaDoor.pl
set_option linter.unusedVariables false
set_option linter.unusedSimpArgs false
set_option maxRecDepth 100000
set_option maxHeartbeats 4000000
/-- n cells, of which the first k are V's and the rest z. -/
def fillA (V : Nat → Value) (z : Value) (k n : Nat) : Array Value := (Array.range n).map (fun i => if i < k then V i else z)
theorem size_fillA (V : Nat → Value) (z : Value) (k n : Nat) : (fillA V z k n).size = n := by simp [fillA]
theorem get_fillA (V : Nat → Value) (z : Value) (k n i : Nat) (h : i < n) : (fillA V z k n)[i]? = some (if i < k then V i else z) := by
  simp [fillA, h]
theorem fillA_zero (V : Nat → Value) (z : Value) (n : Nat) : madeCells #[z] n = fillA V z 0 n := by
  simp [fillA, madeCells, Nat.mod_one]
theorem fillA_step (V : Nat → Value) (z : Value) (k n : Nat) (h : k < n) : (fillA V z k n).setIfInBounds k (V k) = fillA V z (k + 1) n := by
  apply Array.ext
  · simp [size_fillA]
  · intro i h1 h2
    have hi : i < n := by simpa [size_fillA] using h2
    rw [Array.getElem_setIfInBounds (by simpa [size_fillA] using hi)]
    simp only [fillA, Array.getElem_map, Array.getElem_range]
    by_cases hk : k = i
    · subst hk; simp
    · rw [if_neg hk]
      by_cases h3 : i < k
      · rw [if_pos h3, if_pos (by omega)]
      · rw [if_neg h3, if_neg (by omega)]
theorem fillA_full (V : Nat → Value) (z : Value) (n : Nat) : fillA V z n n = (Array.range n).map V := by
  apply Array.ext
  · simp [fillA]
  · intro i h1 h2
    have hi : i < n := by simpa using h2
    simp [fillA, hi]

/-- The cells of a slice: V i at place i; of an empty slice nothing is said. -/
def Cells (w : World) (a : Addr) (n : Nat) (V : Nat → Value) : Prop := (0 < n → a.spot = none) ∧ ∀ i, i < n → w.cell? ⟨a.block, a.off + i, none⟩ = some (V i)
theorem Cells.below {w w' : World} {a : Addr} {n : Nat} {V : Nat → Value} (h : Cells w a n V) (hb : Below w.heap.size w w') : Cells w' a n V := by
  refine ⟨h.1, fun i hi => ?_⟩
  have h1 := h.2 i hi
  have hlt : a.block < w.heap.size := block_lt_of_cell (a := ⟨a.block, a.off + i, none⟩) h1
  exact (hb.cell (p := ⟨a.block, a.off + i, none⟩) hlt).trans h1
theorem Cells.alloc {w : World} {a : Addr} {n : Nat} {V : Nat → Value} (h : Cells w a n V) (o : Obj) : Cells (w.alloc o) a n V := h.below ((Below.refl _ _).alloc (Nat.le_refl _) _)
theorem Cells.made (w : World) (n : Nat) (V : Nat → Value) (e : TypeId) : Cells (w.alloc (.cells ((Array.range n).map V) e)) ⟨w.heap.size, 0, none⟩ n V := by
  refine ⟨fun _ => rfl, fun i hi => ?_⟩
  have h := cell_of_row (w.alloc (.cells ((Array.range n).map V) e)) w.heap.size i _ _ _ (heap_alloc_new w _)
  simp only [Nat.zero_add]
  rw [h]
  simp [hi]


theorem encode_le4 (z : Int) : (Lib.encodeRune z).length ≤ 4 := by
  unfold Lib.encodeRune Lib.encodeRuneZ
  rw [List.length_map]
  repeat' split
  all_goals simp
theorem go_len (f : Int → Int) : ∀ (n : Nat) (l : List UInt8), (mapGoD f n l).length ≤ 4 * n
  | 0, l => by simp [mapGoD]
  | n + 1, l => by
    unfold mapGoD
    split
    · simp
    · rw [List.length_append]
      have h1 := go_len f n (l.drop (decodeL l).2)
      split
      · have := encode_le4 (f (decodeL l).1); omega
      · simp; omega
theorem lower_len (l : List UInt8) : (toLowerD l).length ≤ 4 * l.length := go_len _ _ _
def ents : List (Lit × DataW Unit) := match mapD6 with | .map e => e | _ => []
theorem mapD6_eq : mapD6 = .map ents := rfl
theorem ents_ok : (ents.all fun p => match p.1 with | .string b => toLowerD b == b | _ => false) = true := by kernel_rfl
/-- A text that the table knows is its own lower case. -/
theorem tb_key {l : List UInt8} (h : tb l ≠ []) : toLowerD l = l := by
  unfold tb at h
  rw [mapD6_eq] at h
  unfold DataW.atKey at h
  simp only at h
  cases e : ents.find? (fun p => p.1.sameKey (.string l)) with
  | none => rw [e] at h; exact absurd rfl h
  | some p =>
    have hm := List.mem_of_find?_eq_some e
    have hk := List.find?_some e
    have ho := List.all_eq_true.1 ents_ok p hm
    obtain ⟨k, d⟩ := p
    cases k <;> simp [Lit.sameKey] at hk
    subst hk
    simpa using ho
theorem tb_low (l : List UInt8) : (if tb l = [] then tb (toLowerD l) else tb l) = tb (toLowerD l) := by
  by_cases h : tb l = []
  · rw [if_pos h]
  · rw [if_neg h, tb_key h]
/-- What the listed variables give. -/
def Wd (w : World) : Prop := CaseVar 1 caseA w ∧ Lib.Utf8Tabs 3 4 w ∧ Mv w
theorem Wd.below {w w' : World} (h : Wd w) (hb : Below w.heap.size w w') : Wd w' := by
  obtain ⟨h1, h2, bm, h3, h4, h5⟩ := h
  exact ⟨CaseVar_below h1 hb, Utf8Tabs_below h2 hb, bm, (hb.cell (p := ⟨0, 0, none⟩) (block_lt_of_cell h3)).trans h3, Nat.lt_of_lt_of_le h4 hb.size, fun w'' e => h5 w'' (e.trans (hb.block _ h4))⟩
def Str (l : List UInt8) : Value := .string ⟨l.toArray⟩
theorem mime6 (w : World) (s : ByteArray) (hs : s.size ≤ 1048576) (hw : Wd w) : Calls Tryd.prog 6 #[.string s] w fun e w' => e = .returned (Str (tb (toLowerD s.data.toList))) ∧ Below w.heap.size w w' := by
  have HT : Hid (Calls Tryd.prog 11 #[.string s] w.drew fun e w' => e = .returned (.string ⟨(Lib.toLowerD s.data.toList).toArray⟩) ∧ Below w.drew.heap.size w.drew w') := Lib.hid (Tryd.strings_ToLower_any s w.drew (by omega) hw.1 hw.2.1)
  obtain ⟨h1, h2, bm, c0, hlt, hl⟩ := hw
  have HL := Lib.hid hl
  have l0 := hl w rfl s (by unfold maxLen; omega)
  have hlow := tb_low s.data.toList
  have HLOW := Lib.hid hlow
  clear h1 h2 hl hlow
  by_cases he : tb s.data.toList = []
  · have HE := Lib.hid he
    rw [he] at l0
    have l0' : (Instr.lookup 27 (.map (some bm)) (.string s) false).run Tryd.prog w = .ok (.string ByteArray.empty) w := l0
    have e1 : (ByteArray.empty == ByteArray.empty) = true := by kernel_rfl
    clear l0 he
    go_enter Tryd.func6, Tryd.ntmps6
    go_upto_region 3 with (fail)
    have HSZ : Hid ((⟨(Lib.toLowerD s.data.toList).toArray⟩ : ByteArray).size ≤ maxLen) := Lib.hid (by
      have h1 := lower_len s.data.toList
      have h3 : s.data.toList.length = s.size := by simp
      show (Lib.toLowerD s.data.toList).toArray.size ≤ maxLen
      unfold maxLen
      simp
      omega)
    go_region_law (go_simp; go_at_call 11; refine HT.out.mono ?_; rintro e w2 ⟨rfl, hb⟩; have c2 := (hb.cell (p := ⟨0, 0, none⟩) (block_lt_of_cell c0)).trans c0; have l2 : (Instr.lookup 27 (.map (some bm)) (.string ⟨(Lib.toLowerD s.data.toList).toArray⟩) false).run Tryd.prog w2 = .ok (Str (tb (toLowerD s.data.toList))) w2 := HL.out w2 (hb.block _ hlt) ⟨(Lib.toLowerD s.data.toList).toArray⟩ HSZ.out; have HB : Hid (Below w.heap.size w w2) := Lib.hid ((Below.refl _ _).drew.trans hb); clear hb)
    all_goals
      clear l0' l2 c2
      go_simp
      go_wp2_with fail
      go_ret
      exact ⟨rfl, HB.out⟩
  · have HE := Lib.hid he
    have HTE : Hid (tb (toLowerD s.data.toList) = tb s.data.toList) := Lib.hid (by have := HLOW.out; rw [if_neg he] at this; exact this.symm)
    clear HT he
    have hie : (tb s.data.toList).isEmpty = false := by simpa using HE.out
    go_enter Tryd.func6, Tryd.ntmps6
    go_wp2_with fail
    go_ret
    exact ⟨by rw [HTE.out]; rfl, Below.refl _ _⟩
theorem info5 : (Tryd.prog.info? 5).map (fun i => (i.zero, i.size, i.bytes)) = some (some (.int .u8 0), 1, 1) := by kernel_rfl
def bz (up : Bool) (s : ByteArray) (i : Nat) : Int := ((cs up (s.data.toList.getD i 0).toNat : Nat) : Int)
/-- The bytes with the case of ASCII letters turned. -/
def turned (up : Bool) (s : ByteArray) : List Int := s.data.toList.map fun b => ((cs up b.toNat : Nat) : Int)
theorem turned_get (up : Bool) (s : ByteArray) (k : Nat) (h : k < s.size) : (turned up s)[k]? = some ((cs up (s.data.toList.getD k 0).toNat : Nat) : Int) := by
  have h2 : k < s.data.toList.length := by simpa using h
  simp [turned, List.getElem?_map, h, List.getD]
theorem turned_len (up : Bool) (s : ByteArray) : (turned up s).length = s.size := by simp [turned]
theorem turned_low (up : Bool) (s : ByteArray) : toLowerD (strOfNums (turned up s)).data.toList = toLowerD s.data.toList := by
  apply lower_same
  rw [strOfNums_data]
  refine ⟨by simp [turned], fun i b c hb hc => ?_⟩
  simp only [turned, List.getElem?_map, List.map_map, hb, Option.map_some, Function.comp, Option.some.injEq] at hc
  have e : c = UInt8.ofNat (cs up b.toNat) := by rw [← hc]; simp
  rw [e]
  exact cs_tn up b
def AscP (w : World) (up : Bool) (s : ByteArray) (e : Ending) (w' : World) : Prop := e = .returned (.string (strOfNums (turned up s))) ∧ Below w.heap.size w w'
theorem ascii7 (w : World) (s : ByteArray) (up : Bool) (hs : s.size ≤ 1048576) : Calls Tryd.prog 7 #[.string s, .bool up] w (AscP w up s) := by
  have hmk := run_make_row' (P := Tryd.prog) 28 5 (.int .u8 0) 1 Tryd.underlying28 info5 rfl .i64 .i64 s.size (by omega) (by omega) w
  rw [fillA_zero (fun i => Value.int .u8 (bz up s i))] at hmk
  go_enter Tryd.func7, Tryd.ntmps7
  go_wp2_with fail
  go_loopw [6] (fun i wr => ∃ k : Nat, k ≤ s.size ∧ i = .int .i64 k ∧ w.alloc (.cells (fillA (fun i => Value.int .u8 (bz up s i)) (.int .u8 0) k s.size) 5) = wr) (fun i _ => s.size - (intOf i).toNat)
  case atStart => exact ⟨0, by omega, rfl, rfl⟩
  case round =>
    obtain ⟨k, hk, rfl, rfl⟩ := hrel
    clear hmk
    by_cases hlt : k < s.size
    · have hx : s[k].toNat = (s.data.toList.getD k 0).toNat := by
        have h2 : k < s.data.toList.length := by simpa using hlt
        rw [List.getD_eq_getElem?_getD, List.getElem?_eq_getElem h2]
        rfl
      have hx2 : (s.data.toList.getD k 0).toNat < 256 := (s.data.toList.getD k 0).toNat_lt
      have c2 : (fillA (fun i => Value.int .u8 (bz up s i)) (.int .u8 0) k s.size)[k]? = some (.int .u8 0) := by rw [get_fillA _ _ _ _ _ hlt, if_neg (by omega)]
      have HF := Lib.hid (fillA_step (fun i => Value.int .u8 (bz up s i)) (.int .u8 0) k s.size hlt)
      obtain ⟨x, hxx⟩ : ∃ x, (s.data.toList.getD k 0).toNat = x := ⟨_, rfl⟩
      have HXX := Lib.hid hxx
      rw [hxx] at hx hx2
      clear hxx
      cases up
      · by_cases g : 65 ≤ x ∧ x ≤ 90
        · have d1 : decide ((65 : Int) ≤ (x : Int)) = true := by simp; omega
          have d2 : decide ((x : Int) ≤ 90) = true := by simp; omega
          have f1 : IntKind.u8.wrap ((x : Int) + 32) = (x : Int) + 32 := Go.IntWalk.u8_in _ (by omega)
          have HV : Hid (bz false s k = (x : Int) + 32) := Lib.hid (by unfold bz; rw [HXX.out]; unfold cs; rw [if_neg (by simp), if_pos g]; omega)
          clear g
          go_wp2_with fail
          go_roundw
          case rel => exact ⟨k + 1, by omega, by go_num, by rw [← HF.out]; simp only [HV.out]⟩
          case measure => simp [intOf]; omega
        · have HV : Hid (bz false s k = (x : Int)) := Lib.hid (by unfold bz; rw [HXX.out]; unfold cs; rw [if_neg (by simp), if_neg g])
          by_cases g1 : 65 ≤ x
          · have d1 : decide ((65 : Int) ≤ (x : Int)) = true := by simp; omega
            have d2 : decide ((x : Int) ≤ 90) = false := by simp; omega
            clear g g1
            go_wp2_with fail
            go_roundw
            case rel => exact ⟨k + 1, by omega, by go_num, by rw [← HF.out]; simp only [HV.out]⟩
            case measure => simp [intOf]; omega
          · have d1 : decide ((65 : Int) ≤ (x : Int)) = false := by simp; omega
            clear g g1
            go_wp2_with fail
            go_roundw
            case rel => exact ⟨k + 1, by omega, by go_num, by rw [← HF.out]; simp only [HV.out]⟩
            case measure => simp [intOf]; omega
      · by_cases g : 97 ≤ x ∧ x ≤ 122
        · have d1 : decide ((97 : Int) ≤ (x : Int)) = true := by simp; omega
          have d2 : decide ((x : Int) ≤ 122) = true := by simp; omega
          have f1 : IntKind.u8.wrap ((x : Int) - 32) = (x : Int) - 32 := Go.IntWalk.u8_in _ (by omega)
          have HV : Hid (bz true s k = (x : Int) - 32) := Lib.hid (by unfold bz; rw [HXX.out]; unfold cs; rw [if_pos rfl, if_pos g]; omega)
          clear g
          go_wp2_with fail
          go_roundw
          case rel => exact ⟨k + 1, by omega, by go_num, by rw [← HF.out]; simp only [HV.out]⟩
          case measure => simp [intOf]; omega
        · have HV : Hid (bz true s k = (x : Int)) := Lib.hid (by unfold bz; rw [HXX.out]; unfold cs; rw [if_pos rfl, if_neg g])
          by_cases g1 : 97 ≤ x
          · have d1 : decide ((97 : Int) ≤ (x : Int)) = true := by simp; omega
            have d2 : decide ((x : Int) ≤ 122) = false := by simp; omega
            clear g g1
            go_wp2_with fail
            go_roundw
            case rel => exact ⟨k + 1, by omega, by go_num, by rw [← HF.out]; simp only [HV.out]⟩
            case measure => simp [intOf]; omega
          · have d1 : decide ((97 : Int) ≤ (x : Int)) = false := by simp; omega
            clear g g1
            go_wp2_with fail
            go_roundw
            case rel => exact ⟨k + 1, by omega, by go_num, by rw [← HF.out]; simp only [HV.out]⟩
            case measure => simp [intOf]; omega
    · obtain rfl : k = s.size := by omega
      rw [fillA_full]
      have hcv : (convert 28 9 (.slice (some ⟨w.heap.size, 0, none⟩) s.size s.size)).run Tryd.prog (w.alloc (.cells ((Array.range s.size).map fun i => Value.int .u8 (bz up s i)) 5)) = .ok (.string (strOfNums (turned up s))) (w.alloc (.cells ((Array.range s.size).map fun i => Value.int .u8 (bz up s i)) 5)) := by
        refine run_convert_bytes_arg _ 28 5 Tryd.underlying28 Tryd.underlying5 w.heap.size 0 s.size s.size (turned up s) (turned_len up s) (fun i hi => ?_) 9 Tryd.underlying9
        rw [cell_of_row _ _ (0 + i) _ _ _ (heap_alloc_new w _)]
        have hi : i < s.size := hi
        have h1 := turned_get up s i hi
        simp [hi, List.getD, h1, bz]
      go_wp2_with fail
      go_ret
      exact ⟨rfl, (Below.refl _ _).alloc (Nat.le_refl _) _⟩
theorem bytes5 (w : World) (s : ByteArray) : Calls Tryd.prog 5 #[.string s] w fun e w' => (e = .returned (.bool false) ∨ e = .returned (.bool true)) ∧ w = w' := by
  go_enter Tryd.func5, Tryd.ntmps5
  go_wp2_with fail
  all_goals
    go_ret
    first | exact ⟨.inl rfl, rfl⟩ | exact ⟨.inr rfl, rfl⟩
def LawP (w : World) (e : Ending) (w' : World) : Prop := e = .returned (.bool true) ∧ Below w.heap.size w w'
theorem turned_size (up : Bool) (s : ByteArray) : (strOfNums (turned up s)).size = s.size := by
  show (strOfNums (turned up s)).data.size = s.size
  have h : (strOfNums (turned up s)).data.toList.length = s.size := by rw [strOfNums_data, List.length_map, turned_len]
  simpa using h
theorem law6 (w : World) (s : ByteArray) (hw : Wd w) : Calls Tryd.prog 3 #[.string s] w (LawP w) := by
  have H5 := Lib.hid (bytes5 w s)
  have HW := Lib.hid hw
  clear hw
  by_cases h1 : s.size ≤ 1048576
  rotate_left
  · have d1 : decide ((1048576 : Int) < (s.size : Int)) = true := by simp; omega
    clear h1
    go_enter Tryd.func3, Tryd.ntmps3
    go_wp2_with fail
    refine H5.out.mono ?_
    rintro e w' ⟨rfl | rfl, rfl⟩
    · go_wp2_with fail
      go_ret
      exact ⟨rfl, Below.refl _ _⟩
    · go_wp2_with fail
      go_ret
      exact ⟨rfl, Below.refl _ _⟩
  have d1 : decide ((1048576 : Int) < (s.size : Int)) = false := by simp; omega
  go_enter Tryd.func3, Tryd.ntmps3
  go_wp2_with fail
  refine H5.out.mono ?_
  rintro e w' ⟨rfl | rfl, rfl⟩
  · go_wp2_with fail
    go_ret
    exact ⟨rfl, Below.refl _ _⟩
  clear H5
  have M1 := Lib.hid (mime6 w s h1 HW.out)
  go_upto_region 6 with (go_at_call 6; refine M1.out.mono ?_; rintro e w1 ⟨rfl, hb1⟩; have HB1 := Lib.hid hb1; have HW1 := Lib.hid (HW.out.below hb1); clear hb1)
  clear M1 HW d1
  obtain ⟨r, hr⟩ : ∃ r : ByteArray, Str (tb (toLowerD s.data.toList)) = .string r := ⟨_, rfl⟩
  have M6 : Hid (∀ (up : Bool) (w2 : World), Wd w2 → Calls Tryd.prog 6 #[.string (strOfNums (turned up s))] w2 fun e w' => e = .returned (.string r) ∧ Below w2.heap.size w2 w') := Lib.hid fun up w2 h2 => by
    have h := mime6 w2 (strOfNums (turned up s)) (by rw [turned_size]; exact h1) h2
    rw [turned_low, hr] at h
    exact h
  rw [hr]
  clear hr
  have hrr : (r == r) = true := (Go.MapKept.bytes_beq r r).2 rfl
  have hW := HW1.out
  have hB := HB1.out
  clear HW1 HB1
  go_wp2_with (first | (go_at_call 7; refine (ascii7 _ s _ h1).mono ?_; rintro e w2 ⟨rfl, hb⟩; replace hW := hW.below hb; replace hB := hB.trans (hb.mono hB.size); clear hb) | (go_at_call 6; refine (M6.out _ _ hW).mono ?_; rintro e w2 ⟨rfl, hb⟩; replace hW := hW.below hb; replace hB := hB.trans (hb.mono hB.size); clear hb))
  go_ret
  exact ⟨rfl, hB⟩
end Go.Proofs.YtkanbfphbgoekaaDoor.mi
