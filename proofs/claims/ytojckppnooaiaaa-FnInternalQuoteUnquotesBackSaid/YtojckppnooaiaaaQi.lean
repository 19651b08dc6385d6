/-
  zzQuoteModel and zzBytesEqual walked.
-/
import Derived.Test.YtojckppnooaiaaaQh
import Derived.Test.YtojckppnooaiaaaQf
namespace Go.Proofs.Ytojckppnooaiaaa.qw
open Go.ChangeShapes Go.WideShapes Go.ChangeAt Go.RowKit Go.Deep Go.Proofs.Ytojckppnooaiaaa.qp
set_option linter.unusedVariables false
set_option linter.unusedSimpArgs false
set_option maxRecDepth 100000 in
set_option maxHeartbeats 16000000 in
theorem model8 (w : World) (s : ByteArray) (a : Bool) (q : Nat) (L : List Nat) (hs : s.size ≤ 1048576) (hL : Ch s 0 L) (T : List Int) (hT : [(q : Int)] ++ ou a q L = T) :
    Calls Try.prog 8 #[.string s, .bool a, .int .u8 q] w (QP w (T ++ [(q : Int)])) := by
  have HT := Lib.hid hT
  have hTl : T.length ≤ 15000000 := by
    have h1 := ou_len a q L
    have h2 := hL.count
    rw [← hT]; simp; omega
  clear hT
  have HL := Lib.hid hL
  clear hL
  have HN := Lib.hid (Ob.nil w)
  go_enter Try.func8, Try.ntmps8
  go_upto_region 3 with (at_builtin; refine app (.tmp 12) (.tmp 14) rfl rfl w _ _ [] [(q : Int)] _ rfl 1 1 rfl rfl HN.out rfl (by simp) ?_; intro v1 W3 hb)
  have HB1 := Lib.hid hb
  clear hb HN
  go_wp2_with fail
  go_loopw [7, 8] (fun v7 v8 wr => ∃ (i : Nat) (ds : List Nat) (ys : List Int), v8 = .int .i64 i ∧ Ch s i ds ∧ ys ++ ou a q ds = T ∧ Ob w wr v7 ys) (fun _ v _ => s.size - (intOf v).toNat)
  case atStart => exact ⟨0, L, [(q : Int)], rfl, HL.out, HT.out, HB1.out⟩
  case round =>
    clear HB1
    rename World => wl
    obtain ⟨i, ds, ys, rfl, hch, hys, hob⟩ := hrel
    have hil := hch.le
    have HOB := Lib.hid hob
    have hrm := ou_room hys
    by_cases hi : i < s.size
    · obtain ⟨c, r, n, rfl, hcp, hcr⟩ := hch.here hi
      have hcn := hcp.n
      obtain ⟨n1, n2, n3, n4⟩ := hcn
      have HCP := Lib.hid hcp
      have HCR := Lib.hid hcr
      have HYS := Lib.hid hys
      have hraw : Lib.strCells (s.extract i (i + n)) = vs (eb c) := by rw [strCells_sx, hcp.raw]; rfl
      have HR := Lib.hid hraw
      have HC4 := Lib.hid n4
      have hlo : ys.length ≤ 15000000 := by omega
      clear hcp hcr hys hch hob n4 hraw
      go_upto_region 6 with (go_at_call 12; refine (dec12 _ s i hs hi).mono ?_; rintro _ _ ⟨c', n', b, rfl, hc1, hc2, rfl⟩)
      cases b with
      | false => exact absurd HCP.out (hc2 rfl c n)
      | true =>
        obtain ⟨rfl, rfl⟩ := (hc1 rfl).uniq HCP.out
        clear hc1 hc2
        go_wp2_with (go_at_call 14; refine (esc14 w _ _ ys (s.extract i (i + n')) c' a q HC4.out HR.out hlo HOB.out).mono ?_; rintro _ W3 ⟨v1, rfl, hb⟩)
        go_roundw
        case rel => exact ⟨i + n', r, ys ++ esc a q c', by go_num, HCR.out, ou_step HYS.out, hb⟩
        case measure => simp [intOf]; omega
    · have hds := hch.done hi
      subst hds
      have hyt : ys = T := by rw [← hys]; simp [ou]
      subst hyt
      clear hys hrm hch hob
      go_wp2_with (at_builtin; refine app (.tmp 43) (.tmp 45) rfl rfl w _ _ ys [(q : Int)] _ rfl 1 1 rfl rfl HOB.out rfl (by simp; omega) ?_; intro v1 W3 hb)
      go_ret
      exact ⟨_, rfl, hb⟩
/-- v is a slice that reads xs. -/
def Rd (w : World) (v : Value) (xs : List Int) : Prop := ∃ a c, v = .slice a xs.length c ∧ (0 < xs.length → ∃ b off, a = some ⟨b, off, none⟩ ∧ ∀ i, i < xs.length → w.cell? ⟨b, off + i, none⟩ = some (.int .u8 (xs.getD i 0)))
theorem Rd.below {w w' : World} {v : Value} {xs : List Int} (h : Rd w v xs) (hb : Below w.heap.size w w') : Rd w' v xs := by
  obtain ⟨a, c, rfl, h⟩ := h
  refine ⟨a, c, rfl, fun h0 => ?_⟩
  obtain ⟨b, off, rfl, hc⟩ := h h0
  refine ⟨b, off, rfl, fun i hi => ?_⟩
  have h1 := hc i hi
  exact (hb.cell (p := ⟨b, off + i, none⟩) (block_lt_of_cell h1)).trans h1
theorem Ob.rd {W0 w : World} {v : Value} {ys : List Int} (h : Ob W0 w v ys) : Rd w v ys := by
  obtain ⟨hl, ho⟩ := h.1
  rcases ho with ⟨rfl, h0⟩ | ⟨g, cap, cur, fz, rfl, _, _⟩
  · exact ⟨none, 0, by rw [h0], fun h => by omega⟩
  · refine ⟨_, _, rfl, fun _ => ⟨g, 0, rfl, fun i hi => ?_⟩⟩
    have hc := World.ownsRowF.cells h.1 (g := g) rfl i (.int .u8 (ys.getD i 0)) (by
      unfold vs
      rw [List.getElem?_map, List.getD_eq_getElem?_getD, List.getElem?_eq_getElem hi]; rfl)
    rw [Go.WideShapes.add_plain] at hc
    exact hc
set_option maxHeartbeats 1000000 in
theorem eq9 (w : World) (v1 v2 : Value) (xs : List Int) (hl : xs.length ≤ 15000000) (h1 : Rd w v1 xs) (h2 : Rd w v2 xs) :
    Calls Try.prog 9 #[v1, v2] w fun e w' => e = .returned (.bool true) ∧ Below w.heap.size w w' := by
  obtain ⟨a, ca, rfl, h1⟩ := h1
  obtain ⟨b, cb, rfl, h2⟩ := h2
  have H1 := Lib.hid h1
  have H2 := Lib.hid h2
  clear h1 h2
  generalize xs.length = n at *
  have en : ((n : Int) != (n : Int)) = false := by simp
  go_enter Try.func9, Try.ntmps9
  go_wp2_with fail
  go_loopw [5] (fun i wr => ∃ k : Nat, k ≤ n ∧ i = .int .i64 k ∧ Below w.heap.size w wr) (fun i _ => n - (intOf i).toNat)
  case atStart => exact ⟨0, by omega, rfl, Below.refl _ _⟩
  case round =>
    obtain ⟨k, hk, rfl, hB⟩ := hrel
    have HB := Lib.hid hB
    clear hB
    rename World => wr
    by_cases hlt : k < n
    · obtain ⟨b1, o1, e1, hc1⟩ := H1.out (by omega)
      obtain ⟨b2, o2, e2, hc2⟩ := H2.out (by omega)
      cases e1
      cases e2
      have c1 := hc1 k hlt
      have c2 := hc2 k hlt
      replace c1 := (HB.out.cell (p := ⟨b1, o1 + k, none⟩) (block_lt_of_cell c1)).trans c1
      replace c2 := (HB.out.cell (p := ⟨b2, o2 + k, none⟩) (block_lt_of_cell c2)).trans c2
      have ex : (xs.getD k 0 != xs.getD k 0) = false := by simp
      clear hc1 hc2
      generalize xs.getD k 0 = x at *
      go_wp2_with fail
      go_region
      go_wp2_with fail
      go_roundw
      case rel => exact ⟨k + 1, by omega, by go_num, HB.out.drew⟩
      case measure => simp [intOf]; omega
    · obtain rfl : k = n := by omega
      go_wp2_with fail
      go_ret
      exact ⟨rfl, HB.out⟩
end Go.Proofs.Ytojckppnooaiaaa.qw
