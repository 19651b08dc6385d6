/-
  Law 36's own walk.
-/
import Derived.Test.YtojckppnooaiaaaQj
import Derived.Test.YtojckppnooaiaaaQn
namespace Go.Proofs.Ytojckppnooaiaaa.qw
open Go.ChangeShapes Go.WideShapes Go.ChangeAt Go.RowKit Go.Deep Go.Proofs.Ytojckppnooaiaaa.qp
set_option linter.unusedVariables false
set_option linter.unusedSimpArgs false
theorem Ob.opened {W0 w : World} {v : Value} {ys : List Int} (h : Ob W0 w v ys) (h0 : 0 < ys.length) :
    ∃ g cap, v = .slice (some ⟨g, 0, none⟩) ys.length cap ∧ ys.length ≤ cap ∧ cap ≤ maxLen ∧ ∀ i, i < ys.length → w.cell? ⟨g, i, none⟩ = some (.int .u8 (ys.getD i 0)) := by
  obtain ⟨hl, ho⟩ := h.1
  rcases ho with ⟨rfl, hz⟩ | ⟨g, cap, cur, fz, rfl, _, _, _, hc, hm, _⟩
  · omega
  · refine ⟨g, cap, rfl, hc, hm, fun i hi => ?_⟩
    have hc := World.ownsRowF.cells h.1 (g := g) rfl i (.int .u8 (ys.getD i 0)) (by
      unfold vs
      rw [List.getElem?_map, List.getD_eq_getElem?_getD, List.getElem?_eq_getElem hi]; rfl)
    rw [Go.WideShapes.add_plain, Nat.zero_add] at hc
    exact hc
theorem str_sx (s : ByteArray) : strOfNums (sx s 0 s.size) = s := by
  apply ByteArray.ext
  apply Array.toList_inj.1
  rw [strOfNums_data]
  unfold sx
  rw [List.map_map]
  have e : (s.extract 0 s.size) = s := by
    apply ByteArray.ext
    simp
  rw [e]
  conv => rhs; rw [← List.map_id s.data.toList]
  apply List.map_congr_left
  intro x _
  simp
theorem str_of {s : ByteArray} {L : List Nat} (h : Ch s 0 L) : strOfNums (L.flatMap eb) = s := by rw [← h.raw]; exact str_sx s
theorem inner_get (q : Int) (I : List Int) {k : Nat} (hk : k < I.length) : (([q] ++ I) ++ [q]).getD (1 + k) 0 = I.getD k 0 := by
  rw [List.append_assoc, List.singleton_append, Nat.add_comm, List.getD_cons_succ, List.getD_eq_getElem?_getD, List.getElem?_append_left hk, ← List.getD_eq_getElem?_getD]
theorem cut_inner (W : World) (g n cap : Nat) (h2 : 2 ≤ n) (hc : n ≤ cap) (m : Nat) (hm : n = m + 2) :
    (Instr.slice 24 (.slice (some ⟨g, 0, none⟩) n cap) (some (.int .i64 1)) (some (.int .i64 ((n : Int) - 1))) none).run Try.prog W = .ok (.slice (some ⟨g, 1, none⟩) m (cap - 1)) W := by
  have ht' : Try.prog.underlying 24 = some (.slice (Try.prog.elem 24)) := by simp [Program.elem, Try.underlying24]
  have he : Try.prog.elem 24 = 5 := by simp [Program.elem, Try.underlying24]
  have hz : (Go.sizeOf 5).run Try.prog W = .ok 1 W := by
    obtain ⟨i, hi, hz⟩ := Option.map_eq_some_iff.1 info8
    simp only [Prod.mk.injEq] at hz
    simp [Go.sizeOf]
    kernel_rfl
  rw [run_slice_lh W 24 _ _ _ ht' .i64 .i64 _ _ (by omega) (by omega) (by omega), he, hz]
  have hne : ¬ cap = 1 := by omega
  have e1 : ((n : Int) - 1).toNat = n - 1 := by omega
  have e2 : n - 1 - 1 = m := by omega
  simp [Result.andThen, sliced, Addr.add, hne, e1, e2]
theorem last_get (q : Int) (I : List Int) : (([q] ++ I) ++ [q]).getD (I.length + 1) 0 = q := by
  rw [List.getD_eq_getElem?_getD, List.getElem?_append_right (by simp)]
  simp
set_option maxRecDepth 100000 in
set_option maxHeartbeats 8000000 in
theorem law36 (w : World) (s : ByteArray) (a : Bool) (q : Int) (hm : s.size ≤ maxLen) (hq : (Lit.int .u8 q).wf = true) : Calls Try.prog 4 #[.string s, .bool a, .int .u8 q] w fun e w' => e = .returned (.bool true) ∧ Below w.heap.size w w' := by
  obtain ⟨q, rfl⟩ : ∃ n : Nat, q = (n : Int) := by
    have h0 : 0 ≤ q := by
      simp [Lit.wf, IntKind.min, IntKind.max, IntKind.signed, IntKind.bits] at hq
      omega
    exact ⟨q.toNat, by omega⟩
  obtain ⟨b0, hb0⟩ : ∃ b, decide (s.size ≤ 1048576) = b := ⟨_, rfl⟩
  have HM := Lib.hid hm
  have HB0 := Lib.hid hb0
  clear hm hq
  cases b0 with
  | false =>
    as_aux_lemma =>
    clear hb0
    go_enter Try.func4, Try.ntmps4
    go_wp2_with (go_at_call 10; refine (bytes10 _ s a q HM.out false HB0.out).mono ?_; rintro _ _ ⟨rfl, rfl⟩)
    go_ret
    exact ⟨rfl, Below.refl _ _⟩
  | true =>
    have hs : s.size ≤ 1048576 := by simpa using hb0
    have HS := Lib.hid hs
    have d1 : decide ((1048576 : Int) < (s.size : Int)) = false := by simp; omega
    have d2 : decide (1048576 < s.size) = false := by simp; omega
    clear hs hb0
    go_enter Try.func4, Try.ntmps4
    go_upto_if 23 with (first
      | (go_at_call 10; refine (bytes10 _ s a q HM.out true HB0.out).mono ?_; rintro _ _ ⟨rfl, rfl⟩)
      | (go_at_call 6; refine (wf6 _ s HS.out).mono ?_; rintro _ _ ⟨b, rfl, hwf, rfl⟩))
    cases b with
    | false =>
      go_wp2_with fail
      go_ret
      exact ⟨rfl, Below.refl _ _⟩
    | true =>
      obtain ⟨L, hL, hnp⟩ := hwf rfl
      obtain ⟨T, hT⟩ : ∃ T, [(q : Int)] ++ ou a q L = T := ⟨_, rfl⟩
      have hTl : T.length ≤ 14000000 := by
        have h1 := ou_len a q L
        have h2 := hL.count
        have h3 := HS.out
        rw [← hT]; simp; omega
      have HL := Lib.hid hL
      have HT := Lib.hid hT
      have HTL := Lib.hid hTl
      have HNP := Lib.hid hnp
      clear hL hT hwf hTl hnp
      go_upto_region 8 with (go_at_call 7; refine (zz7 _ s a q L HS.out HL.out T HT.out).mono ?_; rintro _ W1 ⟨v1, rfl, hb1⟩)
      have HB1 := Lib.hid hb1
      obtain ⟨g, cap, rfl, hcap, hmx, hcell⟩ := hb1.opened (by rw [List.length_append]; simp)
      clear hb1
      have hTT := HT.out
      subst hTT
      obtain ⟨I, hI⟩ : ∃ I, ou a q L = I := ⟨_, rfl⟩
      rw [hI] at HB1 hcell hcap HTL ⊢
      obtain ⟨n, hn⟩ : ∃ n, (([(q : Int)] ++ I) ++ [(q : Int)]).length = n := ⟨_, rfl⟩
      rw [hn] at hcell hcap ⊢
      have hnI : n = I.length + 2 := by rw [← hn]; simp
      have hc0 := hcell 0 (by omega)
      have hc1 := hcell (n - 1) (by omega)
      rw [show (([(q : Int)] ++ I) ++ [(q : Int)]).getD 0 0 = q from rfl] at hc0
      rw [show n - 1 = I.length + 1 by omega, last_get] at hc1
      have hcut := fun W => cut_inner W g n cap (by omega) hcap I.length hnI
      have hrd : Rd W1 (.slice (some ⟨g, 1, none⟩) I.length (cap - 1)) I := ⟨_, _, rfl, fun _ => ⟨g, 1, rfl, fun k hk => by rw [hcell (1 + k) (by omega), inner_get _ _ hk]⟩⟩
      have hc0 : W1.cell? ⟨g, 0, none⟩ = some (.int .u8 q) := hc0
      have hc1 : W1.cell? ⟨g, n - 1, none⟩ = some (.int .u8 q) := by rw [show n - 1 = I.length + 1 by omega]; exact hc1
      have hpr : a = true → ∀ x ∈ I, Pr x := by intro ha; subst ha; rw [← hI]; exact ou_pr _ _ HL.out.top
      have HUN := Lib.hid (show Un q I (L.flatMap eb) by rw [← hI]; exact un_ou a q false L HL.out.top HNP.out)
      have HSTR := Lib.hid (str_of HL.out)
      have HIL := Lib.hid (show I.length ≤ 14000000 by have := HTL.out; simp at this; omega)
      have HRD := Lib.hid hrd
      have HPR := Lib.hid hpr
      have HNI := Lib.hid hnI
      have n2 : 2 ≤ n := by omega
      have n3 : n ≤ 15000000 := by have := HIL.out; omega
      have dq : ((q : Int) != q) = false := by simp
      clear hrd hcell hn hnI hpr hI hcap hmx HTL HT
      obtain ⟨m, hmE⟩ : ∃ m, I.length = m := ⟨_, rfl⟩
      rw [hmE] at HRD hcut
      have HME := Lib.hid hmE
      have m3 : m < 15000000 := by have := HIL.out; omega
      clear hmE
      cases a with
      | false =>
        go_wp2_with (go_at_call 11; refine (un11 _ _ I (L.flatMap eb) q (by have := HIL.out; omega) HRD.out HUN.out).mono ?_; rintro _ W2 ⟨rfl, hb2⟩; rw [HSTR.out])
        go_ret
        exact ⟨rfl, HB1.out.below.trans (hb2.mono HB1.out.size)⟩
      | true =>
        go_upto_region 12 with fail
        go_wp2_with fail
        go_loopw [10] (fun v10 wr => ∃ k : Nat, k ≤ m ∧ v10 = .int .i64 k ∧ W1 = wr) (fun v _ => m - (intOf v).toNat)
        case atStart => exact ⟨0, by omega, rfl, rfl⟩
        case round =>
          obtain ⟨k, hk, rfl, rfl⟩ := hrel
          by_cases hlt : k < m
          · obtain ⟨b, off, e1, hcx⟩ := (by obtain ⟨a', c', e, h⟩ := HRD.out; cases e; exact ⟨_, _, (h (by have := HME.out; omega)).choose_spec.choose_spec⟩ : ∃ b off, (some (⟨g, 1, none⟩ : Addr)) = some ⟨b, off, none⟩ ∧ ∀ i, i < I.length → W1.cell? ⟨b, off + i, none⟩ = some (.int .u8 (I.getD i 0)))
            cases e1
            have hlI : k < I.length := by have := HME.out; omega
            have hx := hcx k hlI
            have hp : Pr (I.getD k 0) := HPR.out (by first | trivial | rfl) _ (by rw [List.getD_eq_getElem?_getD, List.getElem?_eq_getElem hlI]; exact List.getElem_mem hlI)
            generalize I.getD k 0 = x at hx hp
            have p1 : decide (x < 32) = false := by have := hp.1; simp; omega
            have p2 : decide (126 < x) = false := by have := hp.2; simp; omega
            clear hcx hp
            go_wp2_with fail
            go_roundw
            case rel => exact ⟨k + 1, by omega, by go_num, by first | trivial | rfl⟩
            case measure => simp [intOf]; omega
          · obtain rfl : k = m := by omega
            go_wp2_with (go_at_call 11; refine (un11 _ _ I (L.flatMap eb) q (by have := HIL.out; omega) HRD.out HUN.out).mono ?_; rintro _ W2 ⟨rfl, hb2⟩; rw [HSTR.out])
            go_ret
            exact ⟨rfl, HB1.out.below.trans (hb2.mono HB1.out.size)⟩
end Go.Proofs.Ytojckppnooaiaaa.qw
