/-
  The round trip statement walked.
-/
import Derived.Test.YtjhmdagdmclknaaUi
import Derived.Laws.BytesString
namespace Go.Proofs.Ytjhmdagdmclknaa.ut
open Go.ChangeShapes Go.WideShapes Go.ChangeAt Go.RowKit Go.Deep Go.Proofs.Ytjhmdagdmclknaa.u8
set_option linter.unusedVariables false
set_option linter.unusedSimpArgs false

theorem str_of (s : ByteArray) : (bs s s.size).foldl (fun r n => r.push (UInt8.ofNat n.toNat)) ByteArray.empty = s := by
  have key : ∀ k, k ≤ s.size → ((bs s k).foldl (fun r n => r.push (UInt8.ofNat n.toNat)) ByteArray.empty).data.toList = s.data.toList.take k := by
    intro k
    induction k with
    | zero => intro _; rw [List.take_zero]; rfl
    | succ k ih =>
      intro hk
      have hlt : k < s.size := by omega
      rw [bs_succ, List.foldl_append, List.foldl_cons, List.foldl_nil]
      have e : ∀ (r : ByteArray) (x : UInt8), (r.push x).data.toList = r.data.toList ++ [x] := fun r x => by simp [ByteArray.push]
      rw [e, ih (by omega), List.take_succ_eq_append_getElem (by simpa using hlt)]
      congr 2
      have hb := bt_at s k hlt
      rw [Int.toNat_natCast, ← hb, UInt8.ofNat_toNat]
      rfl
  have h := key s.size (Nat.le_refl _)
  have h2 : s.data.toList.take s.size = s.data.toList := List.take_of_length_le (by rw [Array.length_toList]; exact Nat.le_refl _)
  rw [h2] at h
  have h3 := Array.toList_inj.1 h
  cases hx : (bs s s.size).foldl (fun r n => r.push (UInt8.ofNat n.toNat)) ByteArray.empty
  rw [hx] at h3
  cases s
  simp only at h3
  rw [h3]
theorem bytes_beq (s s' : ByteArray) : (s == s') = true ↔ s = s' := by
  constructor
  · intro h
    have h1 : (s.data == s'.data) = true := h
    cases s; cases s'
    simp at h1
    exact congrArg _ h1
  · rintro rfl
    show (s.data == s.data) = true
    simp
theorem conv_of {w W : World} {v : Value} {s : ByteArray} (h : Ob w W v s.size (bs s s.size)) : (convert 38 9 v).run Try.prog W = .ok (.string s) W := by
  obtain ⟨⟨_, ho⟩, _⟩ := h
  rcases ho with ⟨rfl, h0⟩ | ⟨g, cap, cur, rfl, _, hg, hle, _, hsz, htake⟩
  · rw [run_convert_bytes_string W 38 9 5 none 0 0 Try.underlying38 Try.underlying5 Try.underlying9]
    have hs : s = ByteArray.empty := by
      have := str_of s
      rw [← this, h0]
      rfl
    rw [hs]
    simp [Conv.bytesToString]
  · rw [run_convert_bytes_string W 38 9 5 _ _ _ Try.underlying38 Try.underlying5 Try.underlying9]
    have hl : (loadCells ⟨g, 0, none⟩ ((bs s s.size).map (Value.int .u8)).length).run Try.prog W = .ok ((bs s s.size).map (Value.int .u8)).toArray W :=
      run_loadCells_list (P := Try.prog) W ⟨g, 0, none⟩ _ (fun j u hu => by
        rw [Go.WideShapes.add_plain, cell_of_row _ g (0 + j) _ _ _ hg, Nat.zero_add]
        rw [← htake, List.getElem?_take] at hu
        split at hu
        · simpa using hu
        · cases hu)
    have he : ((bs s s.size).map (Value.int .u8)).length = s.size := by rw [List.length_map, bs_len]
    rw [he] at hl
    rw [run_bytesToString W ⟨g, 0, none⟩ s.size cap (bs s s.size) hl, str_of]
theorem bytes5 (w : World) (name : ByteArray) (nl tl l : Int) (v : Bool) (hv : decide (name.size ≤ 1048576) = v) (hm : name.size ≤ maxLen) :
    Calls Try.prog 5 #[.string name, .int .i32 nl, .int .i32 tl, .int .i32 l] w fun e w' => e = .returned (.bool v) ∧ w = w' := by
  unfold maxLen at hm
  have HV := Lib.hid hv
  clear hv
  by_cases h1 : 1048576 < name.size
  · obtain rfl : v = false := by rw [← HV.out]; simp; omega
    go_enter Try.func5, Try.ntmps5
    go_wp2_with fail
    go_ret
    exact ⟨rfl, rfl⟩
  obtain rfl : v = true := by rw [← HV.out]; simp; omega
  go_enter Try.func5, Try.ntmps5
  go_wp2_with fail
  go_ret
  exact ⟨rfl, rfl⟩
set_option maxRecDepth 100000 in
set_option maxHeartbeats 8000000 in
theorem law29 (w : World) (name : ByteArray) (nl tl l : Int) (hm : name.size ≤ maxLen) : Calls Try.prog 3 #[.string name, .int .i32 nl, .int .i32 tl, .int .i32 l] w fun e w' => e = .returned (.bool true) ∧ Below w.heap.size w w' := by
  by_cases h0 : ¬ (name.size ≤ 1048576)
  · have H5 := Lib.hid (bytes5 w name nl tl l false (by simpa using h0) hm)
    clear h0 hm
    go_enter Try.func3, Try.ntmps3
    go_wp2_with (go_at_call 5; (with_reducible refine H5.out.mono ?_); rintro e w' ⟨rfl, rfl⟩)
    go_ret
    exact ⟨rfl, Below.refl _ _⟩
  have H5 := Lib.hid (bytes5 w name nl tl l true (by simp; omega) hm)
  clear hm
  by_cases h1 : 65536 < name.size
  · clear h0
    go_enter Try.func3, Try.ntmps3
    go_wp2_with (go_at_call 5; (with_reducible refine H5.out.mono ?_); rintro e w' ⟨rfl, rfl⟩)
    go_ret
    exact ⟨rfl, Below.refl _ _⟩
  have hn : name.size ≤ 65536 := by omega
  have hn2 : name.size ≤ 1048576 := by omega
  have HN := Lib.hid hn
  have HN2 := Lib.hid hn2
  have hd : decide ((65536 : Int) < (name.size : Int)) = false := by simp; omega
  clear h0 h1 hn hn2
  go_enter Try.func3, Try.ntmps3
  go_wp2_with (go_at_call 5; (with_reducible refine H5.out.mono ?_); rintro e w' ⟨rfl, rfl⟩)
  refine (valid6 w name HN2.out).mono ?_
  rintro e w' ⟨v, rfl, hv, rfl⟩
  cases v
  · go_wp2_with fail
    go_ret
    exact ⟨rfl, Below.refl _ _⟩
  have HV := Lib.hid (hv rfl)
  clear hv
  go_wp2_with fail
  refine (new7 _ true).mono ?_
  rintro e w1 ⟨PB, rfl, hp, hb1⟩
  have HP1 := Lib.hid hp
  have HB1 := Lib.hid hb1
  clear hp hb1
  go_wp2_with fail
  refine (super9 _ tl).mono ?_
  rintro e w2 ⟨tb, rfl, hb2⟩
  have HP2 := Lib.hid ((hb2.cell (p := ⟨PB, 338, none⟩) (block_lt_of_cell HP1.out)).trans HP1.out)
  have HB2 := Lib.hid (HB1.out.trans (hb2.mono HB1.out.size))
  clear hb2
  go_simp
  go_wp2_with fail
  refine (dot8 _ 174 tb tl l name nl).mono ?_
  rintro e w3 ⟨b, rfl, hdd, _, hb3⟩
  have hal := (Below.refl w3.heap.size w3).alloc (Nat.le_refl _) (.cells #[.iface 170 (.pointer (some ⟨b, 0, none⟩)), .int .i32 l] 31)
  have hp3 := (hb3.cell (p := ⟨PB, 338, none⟩) (block_lt_of_cell HP2.out)).trans HP2.out
  have HP3 := Lib.hid ((hal.cell (p := ⟨PB, 338, none⟩) (block_lt_of_cell hp3)).trans hp3)
  have HD3 := Lib.hid (hdd.below hal)
  have HB3 := Lib.hid ((HB2.out.trans (hb3.mono HB2.out.size)).trans (hal.mono (Nat.le_trans HB2.out.size hb3.size)))
  clear hb3 hal hp3 hdd
  go_simp
  go_wp2_with fail
  refine (ex10_dot_t174 _ PB b tb tl l nl name HN2.out HP3.out HD3.out).mono ?_
  rintro e w4 ⟨b2, rfl, hst, hb4⟩
  have hal := (Below.refl w4.heap.size w4).alloc (Nat.le_refl _) (.cells #[.iface 178 (.pointer (some ⟨b2, 0, none⟩)), .int .i32 nl] 31)
  have HST := Lib.hid (hst.str.below hal)
  have HB4 := Lib.hid ((HB3.out.trans (hb4.mono HB3.out.size)).trans (hal.mono (Nat.le_trans HB3.out.size hb4.size)))
  clear hst hb4 hal
  go_simp
  go_wp2_with fail
  refine (read11 _ b2 nl _ HST.out).mono ?_
  rintro e w5 ⟨a5, c5, rfl, hrow, hb5⟩
  have HR := Lib.hid hrow
  have HB5 := Lib.hid (HB4.out.trans (hb5.mono HB4.out.size))
  clear hrow hb5
  go_simp
  go_wp2_with fail
  refine (utf12 w5 a5 c5 name HN.out HV.out HR.out).mono ?_
  rintro e w6 ⟨v6, rfl, hob⟩
  have hcv := conv_of hob
  have HB6 := Lib.hid (HB5.out.trans (hob.bel.mono HB5.out.size))
  clear hob
  have heq : (name == name) = true := (bytes_beq name name).2 rfl
  go_simp
  go_wp2_with fail
  go_ret
  exact ⟨rfl, HB6.out⟩
end Go.Proofs.Ytjhmdagdmclknaa.ut
