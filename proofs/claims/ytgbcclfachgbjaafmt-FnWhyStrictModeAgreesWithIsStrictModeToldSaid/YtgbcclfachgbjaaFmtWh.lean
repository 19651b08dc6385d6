/-
  Why a scope is strict: the law walked.
-/
import Derived.Test.YtgbcclfachgbjaaFmtWg
import Derived.Deep.QuietTactic
import Derived.BigQuiet
namespace Go.Proofs.YtgbcclfachgbjaaFmt.ws
open Go.ChangeShapes Go.WideShapes Go.ChangeAt Go.RowKit Go.Deep
open Go.Extern.Stop Go.Stop Go.Extern
set_option linter.unusedVariables false
set_option linter.unusedSimpArgs false
set_option maxRecDepth 100000
set_option maxHeartbeats 4000000
theorem wp_2 : wp[2]? = some (.slice none 0 0) := by kernel_rfl
theorem Ps.notes {w : World} {p ts : Nat} {x1 x2 x3 x4 : Int} {h : Bool} (P : Ps w p ts x1 x2 x3 x4 h) {v : Value} {l : List (Bool × ByteArray)} (hn : Nts w v l) (hl : l ≠ []) : ∀ g n, v = .slice (some ⟨g, 0, none⟩) n n → ¬ (fun b => b = p) g := by
  obtain ⟨g, rfl, hc⟩ := hn
  rintro g' n e rfl
  obtain ⟨rfl, -⟩ : g = g' ∧ _ := by simpa using e
  cases l with
  | nil => exact hl rfl
  | cons x l =>
    have c := (hc 0 x rfl).2
    have d := P.free' 2 (by unfold Free; omega) wp_2
    rw [Nat.zero_mul, Nat.zero_add, d] at c
    cases c
/-- The two lists of notes are alike. -/
def Like (k : Int) : Option (List (Bool × ByteArray)) → Option (List (Bool × ByteArray)) → Prop
  | none, none => True
  | some a, some b => k ≠ 0 ∧ (a.length = b.length ∧ b.length ≤ 2) ∧ (∀ (i : Nat) (x y : Bool × ByteArray), a[i]? = some x → b[i]? = some y → x.1 = y.1) ∧ (k ≠ 4 → a = b) ∧ a ≠ [] ∧ b ≠ []
  | _, _ => False
theorem FL_ne (k x1 x2 x3 x4 : Int) : FL k x1 x2 x3 x4 ≠ some [] ∧ (k = 0 → FL k x1 x2 x3 x4 = none) ∧ ∀ l, FL k x1 x2 x3 x4 = some l → l.length ≤ 2 := by
  refine ⟨?_, ?_, ?_⟩
  · unfold FL
    split
    · simp
    split
    · simp
    split
    · simp
    split
    · cases eL x1 x2 x3 x4 with
      | none => simp
      | some t => simp
    · simp
  · rintro rfl
    unfold FL
    simp
  · intro l
    unfold FL
    split
    · rintro ⟨⟩; simp
    split
    · rintro ⟨⟩; simp
    split
    · rintro ⟨⟩; simp
    split
    · cases eL x1 x2 x3 x4 with
      | none => rintro ⟨⟩
      | some t => rintro ⟨⟩; simp
    · rintro ⟨⟩
theorem like_of {k x1 x2 x3 x4 : Int} {a b : Option (List (Bool × ByteArray))} (ha : Shape k x1 x2 x3 x4 a) (hb : Shape k x1 x2 x3 x4 b) : Like k a b := by
  unfold Shape at ha hb
  by_cases k4 : k = 4
  · rw [if_pos k4] at ha hb
    obtain ⟨t, rfl⟩ := ha
    obtain ⟨u, rfl⟩ := hb
    refine ⟨by omega, ⟨rfl, by simp⟩, fun i x y hx hy => ?_, fun h => absurd k4 h, by simp, by simp⟩
    cases i with
    | zero =>
      obtain rfl : (true, t) = x := by simpa using hx
      obtain rfl : (true, u) = y := by simpa using hy
      rfl
    | succ i => simp at hx
  · rw [if_neg k4] at ha hb
    subst ha
    subst hb
    have h := FL_ne k x1 x2 x3 x4
    revert h
    generalize FL k x1 x2 x3 x4 = f
    intro h
    cases f with
    | none => exact (trivial : True)
    | some l =>
      have hne : l ≠ [] := fun e => h.1 (by rw [e])
      refine ⟨fun e => (by have := h.2.1 e; cases this), ⟨rfl, h.2.2 l rfl⟩, fun i x y hx hy => ?_, fun _ => rfl, hne, hne⟩
      rw [hx] at hy
      cases hy
      rfl
theorem ws_of (k : Int) : WS k = sT ∨ WS k = eT := by
  unfold WS
  split
  · exact Or.inr rfl
  · exact Or.inl rfl
def Two (k : Int) (w : World) (v1 v2 : Value) : Prop := (v1 = .slice none 0 0 ∧ v2 = .slice none 0 0) ∨ ∃ l1 l2, k ≠ 0 ∧ (l1.length = l2.length ∧ l2.length ≤ 2) ∧ (∀ (i : Nat) (x y : Bool × ByteArray), l1[i]? = some x → l2[i]? = some y → x.1 = y.1) ∧ (k ≠ 4 → l1 = l2) ∧ Nts w v1 l1 ∧ Nts w v2 l2
theorem NP.next {k x1 x2 x3 x4 : Int} {w w' : World} {p ts : Nat} {h : Bool} {v : Value} (P : Ps w p ts x1 x2 x3 x4 h) (t : Touch (fun b => b = p) w w') (n : NP k x1 x2 x3 x4 w v) : NP k x1 x2 x3 x4 w' v := by
  obtain ⟨fl, hs, hn⟩ := n
  refine ⟨fl, hs, ?_⟩
  cases fl with
  | none => exact hn
  | some l =>
    have hne : l ≠ [] := by
      rintro rfl
      have := like_of hs hs
      exact this.2.2.2.2.1 rfl
    exact Nts.touch hn t (P.notes hn hne)
theorem two_of {k x1 x2 x3 x4 : Int} {w : World} {v1 v2 : Value} (h1 : NP k x1 x2 x3 x4 w v1) (h2 : NP k x1 x2 x3 x4 w v2) : Two k w v1 v2 := by
  obtain ⟨f1, s1, n1⟩ := h1
  obtain ⟨f2, s2, n2⟩ := h2
  have hl := like_of s1 s2
  cases f1 with
  | none =>
    cases f2 with
    | none => exact Or.inl ⟨n1, n2⟩
    | some b => exact (hl : False).elim
  | some a =>
    cases f2 with
    | none => exact (hl : False).elim
    | some b =>
      obtain ⟨a1, a2, a3, a4, -, -⟩ := hl
      exact Or.inr ⟨a, b, a1, a2, a3, a4, n1, n2⟩
@[go_sem] theorem eqN (w : World) : (binOp .eql 41 (.slice none 0 0) (.slice none 0 0)).run Tryf.prog w = .ok (.bool true) w := by kernel_rfl
@[go_sem] theorem eqS (a : Addr) (n c : Nat) (w : World) : (binOp .eql 41 (.slice (some a) n c) (.slice none 0 0)).run Tryf.prog w = .ok (.bool false) w := by kernel_rfl
theorem sL : sT.toList = [105, 110, 32, 115, 116, 114, 105, 99, 116, 32, 109, 111, 100, 101] := by decide +kernel
theorem eL' : eT.toList = [105, 110, 32, 97, 110, 32, 69, 67, 77, 65, 83, 99, 114, 105, 112, 116, 32, 109, 111, 100, 117, 108, 101] := by decide +kernel
/-- Nothing but draws. -/
structure Dr (w w' : World) : Prop where
  os : w'.os = w.os
  tape : w'.tape = w.tape
  output : w'.output = w.output
  heap : w'.heap = w.heap
theorem Dr.refl (w : World) : Dr w w := ⟨rfl, rfl, rfl, rfl⟩
theorem Dr.drewN {w w' : World} (h : Dr w w') (n : Nat) : Dr w (w'.drewN n) := ⟨h.os, h.tape, h.output, h.heap⟩
theorem Dr.below {w w' : World} (h : Dr w w') (B : Nat) : Below B w w' := ⟨h.os, h.tape, h.output, by rw [h.heap]; exact Nat.le_refl _, fun _ _ => by rw [h.heap]⟩
def LawP (w : World) (e : Ending) (w' : World) : Prop := e = .returned (.bool true) ∧ Below w.heap.size w w'
theorem law3 (F : Interp) (w : World) (hF : F.answers w.tape) (k x1 x2 x3 x4 : Int) : Calls Tryf.prog 3 #[.int .u8 k, .int .i32 x1, .int .i32 x2, .int .i32 x3, .int .i32 x4] w (LawP w) := by
  have HF := Lib.hid hF
  clear hF
  go_enter Tryf.func3, Tryf.ntmps3
  go_upto_region 3 with (go_at_call 4; refine (new4 _ _ _ _ _).mono ?_; rintro _ W ⟨p, ts, rfl, P, hge, hb⟩; have HP := Lib.hid P; have HB := Lib.hid hb; have HGE := Lib.hid hge; clear P hb)
  go_upto_region 4 with fail
  have hn := heap_alloc_new W (.cells #[Value.pointer none, Value.pointer none, Value.slice none 0 0, Value.map none, Value.slice none 0 0, Value.slice none 0 0, Value.int IntKind.i32 0, Value.int IntKind.i32 0, Value.int IntKind.u32 0, Value.int IntKind.u32 0, Value.bool false, Value.bool false, Value.bool false, Value.bool false, Value.int IntKind.u8 k, Value.int IntKind.u8 0] 40)
  have ht := (Touch.refl (fun _ => False) W).alloc (.cells #[Value.pointer none, Value.pointer none, Value.slice none 0 0, Value.map none, Value.slice none 0 0, Value.slice none 0 0, Value.int IntKind.i32 0, Value.int IntKind.i32 0, Value.int IntKind.u32 0, Value.int IntKind.u32 0, Value.bool false, Value.bool false, Value.bool false, Value.bool false, Value.int IntKind.u8 k, Value.int IntKind.u8 0] 40)
  generalize hW1 : W.alloc (.cells #[Value.pointer none, Value.pointer none, Value.slice none 0 0, Value.map none, Value.slice none 0 0, Value.slice none 0 0, Value.int IntKind.i32 0, Value.int IntKind.i32 0, Value.int IntKind.u32 0, Value.int IntKind.u32 0, Value.bool false, Value.bool false, Value.bool false, Value.bool false, Value.int IntKind.u8 k, Value.int IntKind.u8 0] 40) = W1
  rw [hW1] at hn ht
  have HP1 := Lib.hid (HP.out.of ht)
  have HS := Lib.hid (show Sco W1 W.heap.size k from ⟨by rw [cell_of_row W1 _ 6 _ _ _ hn]; rfl, by rw [cell_of_row W1 _ 14 _ _ _ hn]; rfl⟩)
  have HF1 : Hid (F.answers W1.tape) := Lib.hid (by rw [ht.tape, HB.out.tape]; exact HF.out)
  have HNE : Hid (W.heap.size ≠ p) := Lib.hid (by have := HP.out.lt.1; omega)
  have HB1 := Lib.hid (HB.out.trans (ht.below HB.out.size (fun _ h => h.elim)))
  clear hn ht hW1 hge HP HB HF
  generalize W.heap.size = sc at *
  obtain ⟨ws, hws⟩ : ∃ t, WS k = t := ⟨_, rfl⟩
  have HC : ∀ w h, F.answers w.tape → Ps w p ts x1 x2 x3 x4 h → Sco w sc k → Calls Tryf.prog 5 #[ptr p 0, ptr sc 0] w (WhyP w p ts x1 x2 x3 x4 ws (NP k x1 x2 x3 x4)) := fun w h a b c => by
    rw [← hws]; exact why5f F w a p ts sc k x1 x2 x3 x4 h b c HNE.out
  have HCH := Lib.hid HC
  clear HC
  have HWS : Hid (ws = sT ∨ ws = eT) := Lib.hid (hws ▸ ws_of k)
  clear hws
  go_upto_region 5 with (go_at_call 5; refine (HCH.out W1 false HF1.out HP1.out HS.out).mono ?_; rintro _ W2 ⟨v1, h1, rfl, n1, P2, t2⟩; have HN1 := Lib.hid n1; have HP2 := Lib.hid P2; have HS2 := Lib.hid (HS.out.touch t2 HNE.out); have HF2 : Hid (F.answers W2.tape) := Lib.hid (by rw [t2.tape]; exact HF1.out); have HB2 := Lib.hid (HB1.out.trans (t2.below HB1.out.size (fun k hk => by rw [hk]; exact HGE.out))); clear n1 P2 t2)
  clear HP1 HS HF1 HB1
  go_upto_region 6 with (go_at_call 5; refine (HCH.out W2 h1 HF2.out HP2.out HS2.out).mono ?_; rintro _ W3 ⟨v2, h2, rfl, n2, P3, t3⟩; have HN2 := Lib.hid n2; have HP3 := Lib.hid P3; have HS3 := Lib.hid (HS2.out.touch t3 HNE.out); have HN1 := Lib.hid (HN1.out.next HP2.out t3); have HB3 := Lib.hid (HB2.out.trans (t3.below HB2.out.size (fun k hk => by rw [hk]; exact HGE.out))); clear n2 P3 t3)
  clear HP2 HS2 HF2 HCH HB2
  have HZ : Hid (∃ o, W3.cell? ⟨p, 104, none⟩ = some o) := Lib.hid HP3.out.c104
  go_upto_region 7 with (go_at_call 6; obtain ⟨o, ho⟩ := HZ.out; refine (set6 W3 p sc o ho (HP3.out.tk.fz 104)).mono ?_; rintro _ W4 ⟨rfl, rfl⟩; clear ho)
  obtain ⟨o, ho⟩ := HZ.out
  have hc : (W3.setCell ⟨p, 104, none⟩ (ptr sc 0)).cell? ⟨p, 104, none⟩ = some (ptr sc 0) := World.cell?_setCell_same _ _ _ ho
  have ht := (Touch.refl (fun b => b = p) W3).setCell ⟨p, 104, none⟩ (fun _ => rfl) (ptr sc 0)
  have HB4 := Lib.hid (HB3.out.trans (ht.below HB3.out.size (fun k hk => by rw [hk]; exact HGE.out)))
  have hs := (HS3.out.touch ht HNE.out).c14
  have HT := Lib.hid (two_of (HN1.out.next HP3.out ht) (HN2.out.next HP3.out ht))
  generalize W3.setCell ⟨p, 104, none⟩ (ptr sc 0) = W4 at *
  have HI := Lib.hid (is7 W4 p sc k hc hs)
  clear hc ht hs HN1 HN2 HP3 HS3 HZ ho
  go_upto_region 8 with (go_at_call 7; refine HI.out.mono ?_; rintro _ V ⟨rfl, rfl⟩)
  clear HI
  rcases HT.out with ⟨rfl, rfl⟩ | ⟨l1, l2, hk, ⟨hlen, hle⟩, hfl, h4, n1, n2⟩
  · clear HT HN1
    have HW : Hid (ws.toList = [105, 110, 32, 115, 116, 114, 105, 99, 116, 32, 109, 111, 100, 101] ∨ ws.toList = [105, 110, 32, 97, 110, 32, 69, 67, 77, 65, 83, 99, 114, 105, 112, 116, 32, 109, 111, 100, 117, 108, 101]) := Lib.hid (HWS.out.imp (fun h => by rw [h]; exact sL) (fun h => by rw [h]; exact eL'))
    clear HWS
    rcases HW.out with hw | hw
    all_goals
      clear HW
      go_upto_region 10 with fail
      go_upto_region 12 with fail
      go_upto_region 15 with fail
      go_loop [19] (fun i => i = .int .i64 0) (fun i => 0)
      case atStart => rfl
      case round =>
        obtain rfl := hrel
        go_wp2_with fail
        go_ret
        exact ⟨rfl, HB4.out⟩
  · clear HT
    have HW : Hid (ws.toList = [105, 110, 32, 115, 116, 114, 105, 99, 116, 32, 109, 111, 100, 101] ∨ ws.toList = [105, 110, 32, 97, 110, 32, 69, 67, 77, 65, 83, 99, 114, 105, 112, 116, 32, 109, 111, 100, 117, 108, 101]) := Lib.hid (HWS.out.imp (fun h => by rw [h]; exact sL) (fun h => by rw [h]; exact eL'))
    clear HWS
    obtain ⟨g1, rfl, c1⟩ := n1
    obtain ⟨g2, rfl, c2⟩ := n2
    have hk0 : (k != 0) = true := by simp [hk]
    rw [hlen]
    obtain ⟨n, hn⟩ : ∃ n : Nat, l2.length = n := ⟨_, rfl⟩
    have HLEN1 := Lib.hid (hlen.trans hn)
    have HLEN2 := Lib.hid hn
    rw [hn]
    have hle2 : n ≤ 2 := by omega
    clear hle
    have HC1 := Lib.hid c1
    have HC2 := Lib.hid c2
    have HFL := Lib.hid hfl
    have H4 := Lib.hid h4
    clear c1 c2 hfl h4 hlen hn hk
    rcases HW.out with hw | hw
    all_goals
      clear HW
      go_upto_region 10 with fail
      go_upto_region 12 with fail
      go_upto_region 15 with fail
      go_loopw [19] (fun i wr => ∃ j : Nat, j ≤ n ∧ i = .int .i64 j ∧ Dr V wr) (fun i _ => n - (intOf i).toNat)
      case atStart => exact ⟨0, by omega, rfl, Dr.refl V⟩
      case round =>
        obtain ⟨j, hj, rfl, hdr⟩ := hrel
        have HDR := Lib.hid hdr
        have hh : ∀ b : Nat, wr.heap[b]? = V.heap[b]? := fun b => by rw [hdr.heap]
        clear hdr
        by_cases hlt : j < n
        · have hx : ∃ x, l1[j]? = some x := ⟨_, List.getElem?_eq_getElem (by rw [HLEN1.out]; exact hlt)⟩
          have hy : ∃ y, l2[j]? = some y := ⟨_, List.getElem?_eq_getElem (by rw [HLEN2.out]; exact hlt)⟩
          obtain ⟨x, hx⟩ := hx
          obtain ⟨y, hy⟩ := hy
          have e := HFL.out j x y hx hy
          have e4 : k ≠ 4 → x.2 = y.2 := fun h => by have := H4.out h; subst this; rw [hx] at hy; cases hy; rfl
          have a := HC1.out j x hx
          have b := HC2.out j y hy
          rw [← e] at b
          have a2 : wr.cell? ⟨g1, j * 4 + 2, none⟩ = some (.string x.2) := (World.cell?_of_block (a := ⟨g1, j * 4 + 2, none⟩) (hh g1)).trans a.2
          have b2 : wr.cell? ⟨g2, j * 4 + 2, none⟩ = some (.string y.2) := (World.cell?_of_block (a := ⟨g2, j * 4 + 2, none⟩) (hh g2)).trans b.2
          have q : ∃ u v : Option Addr, wr.cell? ⟨g1, j * 4 + 1, none⟩ = some (.pointer u) ∧ wr.cell? ⟨g2, j * 4 + 1, none⟩ = some (.pointer v) ∧ ((u = none ∧ v = none) ∨ ∃ c d, u = some c ∧ v = some d) := by
            cases hb : x.1 with
            | true =>
              rw [hb, if_pos rfl] at a b
              obtain ⟨⟨c, hc⟩, -⟩ := a
              obtain ⟨⟨d, hd⟩, -⟩ := b
              exact ⟨_, _, (World.cell?_of_block (a := ⟨g1, j * 4 + 1, none⟩) (hh g1)).trans hc, (World.cell?_of_block (a := ⟨g2, j * 4 + 1, none⟩) (hh g2)).trans hd, Or.inr ⟨_, _, rfl, rfl⟩⟩
            | false =>
              rw [hb, if_neg (by simp)] at a b
              exact ⟨_, _, (World.cell?_of_block (a := ⟨g1, j * 4 + 1, none⟩) (hh g1)).trans a.1, (World.cell?_of_block (a := ⟨g2, j * 4 + 1, none⟩) (hh g2)).trans b.1, Or.inl ⟨rfl, rfl⟩⟩
          obtain ⟨u, v, a1, b1, huv⟩ := q
          have HUV := Lib.hid huv
          have HE4 := Lib.hid e4
          clear hh huv e4 a b e hx hy
          generalize x.2 = tx at *
          generalize y.2 = ty at *
          clear x y
          go_upto_region 17 with fail
          have hbj : (j : Int) < (n : Int) := by omega
          rcases HUV.out with ⟨rfl, rfl⟩ | ⟨c, d, rfl, rfl⟩
          all_goals
            clear HUV
            go_quiet (fail)
            go_upto_region 19 with fail
            by_cases hk4 : k = 4
            · have e4 : (k != 4) = false := by simp [hk4]
              clear hk4
              go_quiet (fail)
              go_wp2_with fail
              go_roundw
              case rel => exact ⟨j + 1, by omega, by go_num, ⟨HDR.out.os, HDR.out.tape, HDR.out.output, HDR.out.heap⟩⟩
              case measure => simp [intOf]; omega
            · have e4 : (k != 4) = true := by simp [hk4]
              obtain rfl := HE4.out hk4
              clear hk4 HE4
              go_quiet (fail)
              go_wp2_with fail
              go_roundw
              case rel => exact ⟨j + 1, by omega, by go_num, ⟨HDR.out.os, HDR.out.tape, HDR.out.output, HDR.out.heap⟩⟩
              case measure => simp [intOf]; omega
        · obtain rfl : j = n := by omega
          clear hh
          go_wp2_with fail
          go_ret
          exact ⟨rfl, HB4.out.trans (HDR.out.below _)⟩
end Go.Proofs.YtgbcclfachgbjaaFmt.ws
