/-
  The Joiner: Done hands back the text.
-/
import Derived.Test.YthcfdoaeefnemaaJa
namespace Go.Proofs.Ythcfdoaeefnemaa.jn
open Go.ChangeShapes Go.WideShapes Go.ChangeAt Go.RowKit Go.Deep Go.Lib
set_option linter.unusedVariables false
set_option linter.unusedSimpArgs false

theorem info5 : (Try.prog.info? 5).map (fun i => (i.zero, i.size, i.bytes)) = some (some (Value.int .u8 0), 1, 1) := by kernel_rfl
theorem size5 : (Try.prog.info? 5).map (·.size) = some 1 := by kernel_rfl
theorem step_copy_string {P : Program} {ops : Array Oper} {o : Oper} {a : Act} {w : World} {K : Act → World → Prop} {Q : Exit → Act → World → Prop} {E : Prop} (hgd : o.guard = none) (d s : Operand) (dT sT : TypeId)
    (ho : o.op = .call { callee := .builtin .copy, args := #[d, s], argTypes := #[dT, sT] }) (elem : TypeId) (hu : P.underlying dT = some (.slice elem)) (hsz : (P.info? elem).map (·.size) = some 1)
    (dp : Option Addr) (dLen dCap : Nat) (str : ByteArray) (hd : a.eval d = .slice dp dLen dCap) (hs : a.eval s = .string str)
    (g off : Nat) (cur : List Value) (t : TypeId) (hg : w.heap[g]? = some (.cells cur.toArray t (0, 0))) (hle : str.size ≤ dLen)
    (hpos : 0 < str.size → dp = some ⟨g, off, none⟩) (hfit : off + str.size ≤ cur.length) (B : Nat) (w0 : World) (hb : Below B w0 w) (hBg : B ≤ g)
    (h : ∀ w', Hid (w'.heap[g]? = some (.cells (splice cur off (byteCells str.data.toList)).toArray t (0, 0))) → Below B w0 w' → K (a.put o.dst (goInt str.size)) w') :
    if Region.wanted o (yielded ops a.tmps) = true then Oper.wp P o a w K Q else E := by
  have hw : Region.wanted o (yielded ops a.tmps) = true := by simp [Region.wanted, hgd]
  rw [if_pos hw]
  by_cases h0 : str.size = 0
  · have hrun := run_copy_empty_string (P := P) w dT sT o.type elem dp dLen dCap str hu (by cases hq : P.info? elem <;> simp [hq] at hsz ⊢) h0
    have e : byteCells str.data.toList = [] := List.eq_nil_of_length_eq_zero (by rw [byteCells_length, size_list]; exact h0)
    unfold Oper.wp
    simp [execOp, ho, resolve, invoke, builtin, hd, hs, hrun, Result.andThen]
    rw [e] at h
    have := h w (show _ = _ by simpa [splice] using hg) hb
    rw [h0] at this
    exact this
  · obtain rfl := hpos (by omega)
    have hrun := run_copy_row_string (P := P) w dT sT o.type elem g off dLen dCap str cur.toArray t hu hsz hg hle (by simpa using hfit)
    unfold Oper.wp
    simp [execOp, ho, resolve, invoke, builtin, hd, hs, hrun, Result.andThen]
    refine h _ (show _ = _ from ?_) (below_setRow hb hBg _)
    have := setRow_heap w g _ (List.take off cur ++ (byteCells str.data.toList ++ List.drop (off + str.size) cur)).toArray t _ hg
    rw [show splice cur off (byteCells str.data.toList) = List.take off cur ++ (byteCells str.data.toList ++ List.drop (off + str.size) cur) by unfold splice; rw [byteCells_length, size_list]]
    exact this
theorem splice_byteCells (l s : List UInt8) (off : Nat) : splice (byteCells l) off (byteCells s) = byteCells (splice l off s) := by simp [splice, byteCells]
theorem made_bytes (n : Nat) : madeCells #[Value.int .u8 0] n = (byteCells (List.replicate n 0)).toArray := by
  apply Array.ext'
  rw [toList_madeCells_one]
  simp [byteCells]

/-- The text in a block of its own. -/
def Buf (w : World) (G : Nat) (l : List UInt8) : Prop := w.heap[G]? = some (.cells (byteCells l).toArray 5 (0, 0))
theorem Buf.made (w : World) (n : Nat) : Buf (w.alloc (.cells (madeCells #[Value.int .u8 0] n) 5)) w.heap.size (List.replicate n 0) := by
  rw [made_bytes]; exact heap_alloc_new w _
theorem Buf.alloc {w : World} {G : Nat} {l : List UInt8} (h : Buf w G l) (o : Obj) : Buf (w.alloc o) G l := (Below.heap_alloc _ _ _ (lt_of_block h)).trans h
theorem Buf.row {w : World} {G : Nat} {l : List UInt8} (h : Buf w G l) : Row w (some ⟨G, 0, none⟩) l.length (byteAt l) := fun _ => ⟨G, 0, rfl, fun i hi => by
  rw [cell_of_row w G _ _ _ _ h]
  simp [byteCells, byteAt, hi]⟩
def DoneP (w : World) (T : List UInt8) (e : Ending) (w' : World) : Prop := ∃ a c, e = .returned (.slice a T.length c) ∧ Row w' a T.length (byteAt T) ∧ Below w.heap.size w w'
theorem take_snoc' {α : Type} (l : List α) (k : Nat) (p : α) (h : l[k]? = some p) : l.take (k + 1) = l.take k ++ [p] := by
  rw [List.take_add_one, h]; rfl
theorem form_of {w : World} {D E n : Nat} {v : Value} {xs : List Value} (h : w.ownsRow D E 2 v n xs) : ∃ a cap, v = .slice a n cap ∧ (0 < n → ∃ k, a = some ⟨k, 0, none⟩) := by
  rcases h.2 with ⟨rfl, rfl⟩ | ⟨g, cap, cur, rfl, _⟩
  · exact ⟨none, 0, rfl, fun h => by omega⟩
  · exact ⟨_, cap, rfl, fun _ => ⟨g, rfl⟩⟩

set_option maxHeartbeats 2000000 in
theorem done_one (w : World) (D g : Nat) (gs gb : Option Nat) (y : BItem) (T : List UInt8) (h : Jn w D g gs gb [] [y] T) (hT : T.length ≤ 1048576) : Calls Try.prog 13 #[.pointer (some ⟨g, 0, none⟩)] w (DoneP w T) := by
  obtain ⟨sv, bv, a1, a2, rfl, a4, rfl, a6, a7, a8, a9, a10, a11⟩ := h
  obtain ⟨ya, yn, yc, yB, yoff⟩ := y
  obtain ⟨y1, y2⟩ := a11 _ (List.mem_singleton.2 rfl)
  simp only at y1 y2
  have hg := a10.1 (yB, yoff) (by simp [itS, itY])
  simp only at hg
  have hoff : yoff = 0 := by
    by_cases h0 : T.length = 0
    · omega
    · obtain ⟨p, hp, h1, h2⟩ := a10.2 0 (by omega)
      simp [itS, itY] at hp; subst hp; simp at h1; exact h1
  have hTB : T = yB := by
    apply List.ext_getElem?
    intro i
    by_cases hi : i < yB.length
    · have := hg.2 i hi; rw [hoff, Nat.zero_add] at this; exact this
    · have hl : T.length ≤ yB.length := by
        by_cases h0 : T.length = 0
        · omega
        · obtain ⟨p, hp, h1, h2⟩ := a10.2 (T.length - 1) (by omega)
          simp [itS, itY] at hp; subst hp; simp at h1 h2; omega
      rw [List.getElem?_eq_none (by omega), List.getElem?_eq_none (by omega)]
  subst hTB hoff y1
  obtain ⟨sa, sc, rfl, _⟩ := form_of a2
  obtain ⟨ba, bc, rfl, hba⟩ := form_of a4
  obtain ⟨k, rfl⟩ := hba (by simp)
  obtain ⟨c0, c1, c2, c3⟩ := a1.cells
  have d0 : w.cell? ⟨k, 0, none⟩ = some (.slice ya T.length yc) := by rw [a4.cellAt 0 (by simp)]; rfl
  have d1 : w.cell? ⟨k, 1, none⟩ = some (.int .u32 0) := by rw [a4.cellAt 1 (by simp)]; rfl
  have HY := Lib.hid y2
  clear y2 a1 a2 a4 a6 a7 a8 a9 a10 a11 hg hba hT
  simp only [List.length_nil, List.length_cons, Nat.zero_add] at *
  go_enter Try.func13, Try.ntmps13
  go_wp2
  go_ret
  exact ⟨_, _, rfl, HY.out.row, Below.refl _ _⟩

theorem ints_of_le {a b : Nat} (h : a ≤ b) : decide ((a : Int) ≤ (b : Int)) = true := by simp; omega
set_option maxRecDepth 100000 in
set_option maxHeartbeats 4000000 in
theorem done_many (w : World) (D g : Nat) (gs gb : Option Nat) (S : List (ByteArray × Nat)) (Y : List BItem) (T : List UInt8) (h : Jn w D g gs gb S Y T) (hT : T.length ≤ 1048576) (hS : S.length ≤ 1048576) (hY : Y.length ≤ 1048576)
    (hne : S.length ≠ 0 ∨ Y.length ≠ 1) : Calls Try.prog 13 #[.pointer (some ⟨g, 0, none⟩)] w (DoneP w T) := by
  obtain ⟨sv, bv, a1, a2, rfl, a4, rfl, a6, a7, a8, a9, a10, a11⟩ := h
  obtain ⟨sa, sc, rfl, hsa⟩ := form_of a2
  obtain ⟨ba, bc, rfl, hba⟩ := form_of a4
  obtain ⟨c0, c1, c2, c3⟩ := a1.cells
  have hmk := run_make_row' (P := Try.prog) 31 5 (Value.int .u8 0) 1 Try.underlying31 info5 rfl .u32 .u32 T.length (by omega) (by omega) w
  have hgl := a1.lt
  have A2 := Lib.hid a2
  have A4 := Lib.hid a4
  have A10 := Lib.hid a10
  have A11 := Lib.hid a11
  have HSA := Lib.hid hsa
  have HBA := Lib.hid hba
  have HDg := Lib.hid (show D ≤ w.heap.size by omega)
  clear a1 a2 a4 a6 a7 a8 a9 a10 a11 hsa hba
  have q1 : ((S.length : Int) == 0) = decide (S.length = 0) := by rw [Bool.eq_iff_iff]; simp
  by_cases hs0 : S.length = 0
  · have q2 : ((Y.length : Int) == 1) = false := by rw [beq_eq_false_iff_ne]; omega
    have q3 : ((S.length : Int) == 0) = true := by rw [q1]; simp [hs0]
    clear q1
    have HS0 := Lib.hid hs0
    clear hs0 hne
    go_enter Try.func13, Try.ntmps13
    go_wp2
    have HM := Lib.hid (Buf.made w T.length)
    have HB0 := Lib.hid (show Below w.heap.size w (w.alloc (.cells (madeCells #[Value.int .u8 0] T.length) 5)) from (Below.refl _ _).alloc (Nat.le_refl _) _)
    have HAg : Hid (Agree ((itS S).take 0) T (List.replicate T.length 0)) := Lib.hid ⟨by simp, by simp⟩
    clear hmk c0 c2 c3
    generalize w.alloc (.cells (madeCells #[Value.int .u8 0] T.length) 5) = w0 at *
    go_loopw [49] (fun i wr => ∃ (k : Nat) (l : List UInt8), k ≤ S.length ∧ i = .int .i64 k ∧ Buf wr w.heap.size l ∧ Agree ((itS S).take k) T l ∧ Below w.heap.size w wr) (fun i _ => S.length - (intOf i).toNat)
    case atStart => exact ⟨0, _, by omega, rfl, HM.out, HAg.out, HB0.out⟩
    case round =>
      obtain ⟨k, l, hk, rfl, hbuf, hag, hbel⟩ := hrel
      have HBu := Lib.hid hbuf
      have HA := Lib.hid hag
      have HBl := Lib.hid hbel
      have hgr : g < wr.heap.size := Nat.lt_of_lt_of_le hgl hbel.size
      clear hbuf hag hbel
      by_cases hlt : k < S.length
      · obtain ⟨ks, rfl⟩ := HSA.out (by omega)
        obtain ⟨⟨s, off⟩, hp⟩ : ∃ p, S[k]? = some p := ⟨_, List.getElem?_eq_getElem hlt⟩
        have hks : ks < w.heap.size := (ownBlock_lt A2.out rfl).2
        have e0 : wr.cell? ⟨ks, k * 2, none⟩ = some (.string s) := by rw [HBl.out.cell (by exact hks), A2.out.cellAt _ (by omega)]; exact (flatS_get S k _ hp).1
        have e1 : wr.cell? ⟨ks, k * 2 + 1, none⟩ = some (.int .u32 off) := by rw [HBl.out.cell (by exact hks), A2.out.cellAt _ (by omega)]; exact (flatS_get S k _ hp).2
        have hks2 : ks < wr.heap.size := Nat.lt_of_lt_of_le hks HBl.out.size
        have hit : (itS S)[k]? = some (s.data.toList, off) := by simp [itS, hp]
        have HG := A10.out.1 (s.data.toList, off) (List.mem_append_left _ (List.mem_of_getElem? hit))
        simp only [size_list] at HG
        have HIT := Lib.hid hit
        have hfit : off + s.size ≤ T.length := HG.1
        have HG2 := Lib.hid HG.2
        have hll : l.length = T.length := HA.out.1
        have HLL := Lib.hid hll
        clear hp hit HG hll
        have b1 : ((0 : Int) ≤ (off : Int)) := by omega
        have b2 : ((off : Int) ≤ (T.length : Int)) := by omega
        go_wp2
        have HBa := Lib.hid (HBu.out.alloc (.cells #[.string s, .int .u32 off] 47))
        have HBb := Lib.hid (HBl.out.alloc HBl.out.size (.cells #[.string s, .int .u32 off] 47))
        have HD1 : Hid (∀ w', Hid (w'.heap[w.heap.size]? = some (.cells (splice (byteCells l) off (byteCells s.data.toList)).toArray 5 (0, 0))) → Buf w' w.heap.size (splice l off s.data.toList)) := Lib.hid (fun w' h => by have := h.out; rw [splice_byteCells] at this; exact this)
        by_cases hoL : T.length = off
        · subst hoL
          go_region_law (refine step_copy_string rfl (.tmp 56) (.tmp 58) 31 9 rfl 5 Try.underlying31 size5 _ _ _ s rfl rfl w.heap.size T.length (byteCells l) 5 HBa.out (by omega) (by intro h; omega) (by rw [byteCells_length, HLL.out]; exact hfit) w.heap.size w HBb.out.drew (Nat.le_refl _) ?_; intro w2 hg2 hb2; have HBc := Lib.hid (HD1.out _ hg2); have HBd := Lib.hid hb2; clear hg2 hb2)
          all_goals
            go_wp2
            go_roundw
            case rel => exact ⟨k + 1, _, by omega, by go_num, HBc.out, by rw [take_snoc' _ _ _ HIT.out]; exact HA.out.step (by simpa [size_list] using hfit) (by simpa only [size_list] using HG2.out), HBd.out⟩
            case measure => simp [intOf]; omega
        · go_region_law (refine step_copy_string rfl (.tmp 56) (.tmp 58) 31 9 rfl 5 Try.underlying31 size5 _ _ _ s rfl rfl w.heap.size off (byteCells l) 5 HBa.out (by omega) (by intro h; rfl) (by rw [byteCells_length, HLL.out]; exact hfit) w.heap.size w HBb.out.drew (Nat.le_refl _) ?_; intro w2 hg2 hb2; have HBc := Lib.hid (HD1.out _ hg2); have HBd := Lib.hid hb2; clear hg2 hb2)
          all_goals
            go_wp2
            go_roundw
            case rel => exact ⟨k + 1, _, by omega, by go_num, HBc.out, by rw [take_snoc' _ _ _ HIT.out]; exact HA.out.step (by simpa [size_list] using hfit) (by simpa only [size_list] using HG2.out), HBd.out⟩
            case measure => simp [intOf]; omega
      · obtain rfl : k = S.length := by omega
        have HAt : Hid (Agree (itS S ++ (itY Y).take 0) T l) := Lib.hid (by have := HA.out; rw [List.take_of_length_le (by simp [itS])] at this; simpa using this)
        have c1' : wr.cell? ⟨g, 1, none⟩ = some (.slice ba Y.length bc) := by rw [HBl.out.cell (by exact hgl)]; exact c1
        clear c1
        go_wp2
        obtain ⟨wq, hwq⟩ : ∃ x : World, x = wr := ⟨_, rfl⟩
        have HWQ := Lib.hid hwq
        clear hwq
        go_loopw [66] (fun i wr => ∃ (k : Nat) (l : List UInt8), k ≤ Y.length ∧ i = .int .i64 k ∧ Buf wr w.heap.size l ∧ Agree (itS S ++ (itY Y).take k) T l ∧ Below w.heap.size w wr) (fun i _ => Y.length - (intOf i).toNat)
        case atStart => exact ⟨0, _, by omega, rfl, HBu.out, HAt.out, HBl.out⟩
        case round =>
          clear HBu HA HBl HAt c1' HWQ
          obtain ⟨k, l, hk, rfl, hbuf, hag, hbel⟩ := hrel
          have HBu := Lib.hid hbuf
          have HA := Lib.hid hag
          have HBl := Lib.hid hbel
          clear hbuf hag hbel
          by_cases hlt : k < Y.length
          · obtain ⟨ks, rfl⟩ := HBA.out (by omega)
            obtain ⟨y, hp⟩ : ∃ p, Y[k]? = some p := ⟨_, List.getElem?_eq_getElem hlt⟩
            obtain ⟨hyn, hyr⟩ := A11.out y (List.mem_of_getElem? hp)
            obtain ⟨ya, yn, yc, yB, yoff⟩ := y
            simp only at hyn hyr
            have hks : ks < w.heap.size := (ownBlock_lt A4.out rfl).2
            have e0 : wr.cell? ⟨ks, k * 2, none⟩ = some (.slice ya yn yc) := by rw [HBl.out.cell (by exact hks), A4.out.cellAt _ (by omega)]; exact (flatY_get Y k _ hp).1
            have e1 : wr.cell? ⟨ks, k * 2 + 1, none⟩ = some (.int .u32 yoff) := by rw [HBl.out.cell (by exact hks), A4.out.cellAt _ (by omega)]; exact (flatY_get Y k _ hp).2
            have hks2 : ks < wr.heap.size := Nat.lt_of_lt_of_le hks HBl.out.size
            have hit : (itY Y)[k]? = some (yB, yoff) := by simp [itY, hp]
            have HG := A10.out.1 (yB, yoff) (List.mem_append_right _ (List.mem_of_getElem? hit))
            have HIT := Lib.hid hit
            have HG2 := Lib.hid HG
            have hfit : yoff + yn ≤ T.length := by rw [hyn]; exact HG.1
            have HYN := Lib.hid hyn
            have HLL := Lib.hid HA.out.1
            have HYR := Lib.hid (hyr.below HBl.out HDg.out)
            clear hp hit HG hyn hyr
            have b1 : ((0 : Int) ≤ (yoff : Int)) := by omega
            have b2 : ((yoff : Int) ≤ (T.length : Int)) := by omega
            go_wp2
            have HBa := Lib.hid (HBu.out.alloc (.cells #[.slice ya yn yc, .int .u32 yoff] 49))
            have HBb := Lib.hid (HBl.out.alloc HBl.out.size (.cells #[.slice ya yn yc, .int .u32 yoff] 49))
            have HYA : Hid (0 < (byteCells yB).length → ∃ ad, ya = some ad ∧ ∀ j v, (byteCells yB)[j]? = some v → ((wr.alloc (.cells #[.slice ya yn yc, .int .u32 yoff] 49)).drew).cell? (ad.add j) = some v) := Lib.hid (by
              intro h0
              rw [byteCells_length, ← HYN.out] at h0
              obtain ⟨b, o, e, hb, hc⟩ := HYR.out h0
              refine ⟨_, e, fun j v hv => ?_⟩
              have hj : j < yn := by
                have := (List.getElem?_eq_some_iff.1 hv).1; rw [byteCells_length, ← HYN.out] at this; exact this
              rw [Go.WideShapes.add_plain]
              have h3 := hc j hj
              have h4 : (wr.alloc (.cells #[.slice ya yn yc, .int .u32 yoff] 49)).cell? ⟨b, o + j, none⟩ = some (byteAt yB j) := by
                rw [World.cell?_of_block (w := wr) (Below.heap_alloc _ _ _ (block_lt_of_cell h3))]; exact h3
              have h5 : ((wr.alloc (.cells #[.slice ya yn yc, .int .u32 yoff] 49)).drew).cell? ⟨b, o + j, none⟩ = some (byteAt yB j) := h4
              rw [h5, ← hv]
              simp [byteCells, byteAt, show j < yB.length by rw [← HYN.out]; exact hj])
            have HD1 : Hid (∀ w', Hid (w'.heap[w.heap.size]? = some (.cells (splice (byteCells l) yoff (byteCells yB)).toArray 5 (0, 0))) → Buf w' w.heap.size (splice l yoff yB)) := Lib.hid (fun w' h => by have := h.out; rw [splice_byteCells] at this; exact this)
            have HLn : Hid ((byteCells yB).length = yn) := Lib.hid (by rw [byteCells_length, HYN.out])
            by_cases hoL : T.length = yoff
            · subst hoL
              go_region_law (refine step_copy_splice rfl (.tmp 73) (.tmp 75) 31 31 rfl 5 Try.underlying31 size5 _ _ _ _ _ _ rfl rfl w.heap.size T.length (byteCells l) 5 HBa.out (byteCells yB) (by rw [HLn.out]; simp [Nat.min_def]; omega) (by intro h; rw [HLn.out] at h; omega) (by rw [byteCells_length, byteCells_length, HLL.out, ← HYN.out]; exact hfit) (byteCells_one _) w.heap.size w HBb.out.drew (Nat.le_refl _) ?_; intro w2 hg2 hb2; have HBc := Lib.hid (HD1.out _ hg2); have HBd := Lib.hid hb2; clear hg2 hb2)
              all_goals
                go_wp2
                go_roundw
                case rel => exact ⟨k + 1, _, by omega, by go_num, HBc.out, by rw [take_snoc' _ _ _ HIT.out, ← List.append_assoc]; exact HA.out.step HG2.out.1 HG2.out.2, HBd.out⟩
                case measure => simp [intOf]; omega
            · go_region_law (refine step_copy_splice rfl (.tmp 73) (.tmp 75) 31 31 rfl 5 Try.underlying31 size5 _ _ _ _ _ _ rfl rfl w.heap.size yoff (byteCells l) 5 HBa.out (byteCells yB) (by rw [HLn.out]; simp [Nat.min_def]; omega) (by intro h; exact ⟨rfl, HYA.out h⟩) (by rw [byteCells_length, byteCells_length, HLL.out, ← HYN.out]; exact hfit) (byteCells_one _) w.heap.size w HBb.out.drew (Nat.le_refl _) ?_; intro w2 hg2 hb2; have HBc := Lib.hid (HD1.out _ hg2); have HBd := Lib.hid hb2; clear hg2 hb2)
              all_goals
                go_wp2
                go_roundw
                case rel => exact ⟨k + 1, _, by omega, by go_num, HBc.out, by rw [take_snoc' _ _ _ HIT.out, ← List.append_assoc]; exact HA.out.step HG2.out.1 HG2.out.2, HBd.out⟩
                case measure => simp [intOf]; omega
          · obtain rfl : k = Y.length := by omega
            have hlT : l = T := Agree.all (by have := HA.out; rw [List.take_of_length_le (by simp [itY])] at this; exact this) A10.out
            have HR := Lib.hid (show Row wr (some ⟨w.heap.size, 0, none⟩) T.length (byteAt T) by have := HBu.out.row; rw [hlT] at this; exact this)
            clear hlT
            go_wp2
            go_ret
            exact ⟨_, _, rfl, HR.out, HBl.out⟩
  · have q3 : ((S.length : Int) == 0) = false := by rw [q1]; simp [hs0]
    clear q1 hne
    have HS0 := Lib.hid hs0
    clear hs0
    go_enter Try.func13, Try.ntmps13
    go_wp2
    have HM := Lib.hid (Buf.made w T.length)
    have HB0 := Lib.hid (show Below w.heap.size w (w.alloc (.cells (madeCells #[Value.int .u8 0] T.length) 5)) from (Below.refl _ _).alloc (Nat.le_refl _) _)
    have HAg : Hid (Agree ((itS S).take 0) T (List.replicate T.length 0)) := Lib.hid ⟨by simp, by simp⟩
    clear hmk c0 c2 c3
    generalize w.alloc (.cells (madeCells #[Value.int .u8 0] T.length) 5) = w0 at *
    go_loopw [49] (fun i wr => ∃ (k : Nat) (l : List UInt8), k ≤ S.length ∧ i = .int .i64 k ∧ Buf wr w.heap.size l ∧ Agree ((itS S).take k) T l ∧ Below w.heap.size w wr) (fun i _ => S.length - (intOf i).toNat)
    case atStart => exact ⟨0, _, by omega, rfl, HM.out, HAg.out, HB0.out⟩
    case round =>
      obtain ⟨k, l, hk, rfl, hbuf, hag, hbel⟩ := hrel
      have HBu := Lib.hid hbuf
      have HA := Lib.hid hag
      have HBl := Lib.hid hbel
      have hgr : g < wr.heap.size := Nat.lt_of_lt_of_le hgl hbel.size
      clear hbuf hag hbel
      by_cases hlt : k < S.length
      · obtain ⟨ks, rfl⟩ := HSA.out (by omega)
        obtain ⟨⟨s, off⟩, hp⟩ : ∃ p, S[k]? = some p := ⟨_, List.getElem?_eq_getElem hlt⟩
        have hks : ks < w.heap.size := (ownBlock_lt A2.out rfl).2
        have e0 : wr.cell? ⟨ks, k * 2, none⟩ = some (.string s) := by rw [HBl.out.cell (by exact hks), A2.out.cellAt _ (by omega)]; exact (flatS_get S k _ hp).1
        have e1 : wr.cell? ⟨ks, k * 2 + 1, none⟩ = some (.int .u32 off) := by rw [HBl.out.cell (by exact hks), A2.out.cellAt _ (by omega)]; exact (flatS_get S k _ hp).2
        have hks2 : ks < wr.heap.size := Nat.lt_of_lt_of_le hks HBl.out.size
        have hit : (itS S)[k]? = some (s.data.toList, off) := by simp [itS, hp]
        have HG := A10.out.1 (s.data.toList, off) (List.mem_append_left _ (List.mem_of_getElem? hit))
        simp only [size_list] at HG
        have HIT := Lib.hid hit
        have hfit : off + s.size ≤ T.length := HG.1
        have HG2 := Lib.hid HG.2
        have hll : l.length = T.length := HA.out.1
        have HLL := Lib.hid hll
        clear hp hit HG hll
        have b1 : ((0 : Int) ≤ (off : Int)) := by omega
        have b2 : ((off : Int) ≤ (T.length : Int)) := by omega
        go_wp2
        have HBa := Lib.hid (HBu.out.alloc (.cells #[.string s, .int .u32 off] 47))
        have HBb := Lib.hid (HBl.out.alloc HBl.out.size (.cells #[.string s, .int .u32 off] 47))
        have HD1 : Hid (∀ w', Hid (w'.heap[w.heap.size]? = some (.cells (splice (byteCells l) off (byteCells s.data.toList)).toArray 5 (0, 0))) → Buf w' w.heap.size (splice l off s.data.toList)) := Lib.hid (fun w' h => by have := h.out; rw [splice_byteCells] at this; exact this)
        by_cases hoL : T.length = off
        · subst hoL
          go_region_law (refine step_copy_string rfl (.tmp 56) (.tmp 58) 31 9 rfl 5 Try.underlying31 size5 _ _ _ s rfl rfl w.heap.size T.length (byteCells l) 5 HBa.out (by omega) (by intro h; omega) (by rw [byteCells_length, HLL.out]; exact hfit) w.heap.size w HBb.out.drew (Nat.le_refl _) ?_; intro w2 hg2 hb2; have HBc := Lib.hid (HD1.out _ hg2); have HBd := Lib.hid hb2; clear hg2 hb2)
          all_goals
            go_wp2
            go_roundw
            case rel => exact ⟨k + 1, _, by omega, by go_num, HBc.out, by rw [take_snoc' _ _ _ HIT.out]; exact HA.out.step (by simpa [size_list] using hfit) (by simpa only [size_list] using HG2.out), HBd.out⟩
            case measure => simp [intOf]; omega
        · go_region_law (refine step_copy_string rfl (.tmp 56) (.tmp 58) 31 9 rfl 5 Try.underlying31 size5 _ _ _ s rfl rfl w.heap.size off (byteCells l) 5 HBa.out (by omega) (by intro h; rfl) (by rw [byteCells_length, HLL.out]; exact hfit) w.heap.size w HBb.out.drew (Nat.le_refl _) ?_; intro w2 hg2 hb2; have HBc := Lib.hid (HD1.out _ hg2); have HBd := Lib.hid hb2; clear hg2 hb2)
          all_goals
            go_wp2
            go_roundw
            case rel => exact ⟨k + 1, _, by omega, by go_num, HBc.out, by rw [take_snoc' _ _ _ HIT.out]; exact HA.out.step (by simpa [size_list] using hfit) (by simpa only [size_list] using HG2.out), HBd.out⟩
            case measure => simp [intOf]; omega
      · obtain rfl : k = S.length := by omega
        have HAt : Hid (Agree (itS S ++ (itY Y).take 0) T l) := Lib.hid (by have := HA.out; rw [List.take_of_length_le (by simp [itS])] at this; simpa using this)
        have c1' : wr.cell? ⟨g, 1, none⟩ = some (.slice ba Y.length bc) := by rw [HBl.out.cell (by exact hgl)]; exact c1
        clear c1
        go_wp2
        obtain ⟨wq, hwq⟩ : ∃ x : World, x = wr := ⟨_, rfl⟩
        have HWQ := Lib.hid hwq
        clear hwq
        go_loopw [66] (fun i wr => ∃ (k : Nat) (l : List UInt8), k ≤ Y.length ∧ i = .int .i64 k ∧ Buf wr w.heap.size l ∧ Agree (itS S ++ (itY Y).take k) T l ∧ Below w.heap.size w wr) (fun i _ => Y.length - (intOf i).toNat)
        case atStart => exact ⟨0, _, by omega, rfl, HBu.out, HAt.out, HBl.out⟩
        case round =>
          clear HBu HA HBl HAt c1' HWQ
          obtain ⟨k, l, hk, rfl, hbuf, hag, hbel⟩ := hrel
          have HBu := Lib.hid hbuf
          have HA := Lib.hid hag
          have HBl := Lib.hid hbel
          clear hbuf hag hbel
          by_cases hlt : k < Y.length
          · obtain ⟨ks, rfl⟩ := HBA.out (by omega)
            obtain ⟨y, hp⟩ : ∃ p, Y[k]? = some p := ⟨_, List.getElem?_eq_getElem hlt⟩
            obtain ⟨hyn, hyr⟩ := A11.out y (List.mem_of_getElem? hp)
            obtain ⟨ya, yn, yc, yB, yoff⟩ := y
            simp only at hyn hyr
            have hks : ks < w.heap.size := (ownBlock_lt A4.out rfl).2
            have e0 : wr.cell? ⟨ks, k * 2, none⟩ = some (.slice ya yn yc) := by rw [HBl.out.cell (by exact hks), A4.out.cellAt _ (by omega)]; exact (flatY_get Y k _ hp).1
            have e1 : wr.cell? ⟨ks, k * 2 + 1, none⟩ = some (.int .u32 yoff) := by rw [HBl.out.cell (by exact hks), A4.out.cellAt _ (by omega)]; exact (flatY_get Y k _ hp).2
            have hks2 : ks < wr.heap.size := Nat.lt_of_lt_of_le hks HBl.out.size
            have hit : (itY Y)[k]? = some (yB, yoff) := by simp [itY, hp]
            have HG := A10.out.1 (yB, yoff) (List.mem_append_right _ (List.mem_of_getElem? hit))
            have HIT := Lib.hid hit
            have HG2 := Lib.hid HG
            have hfit : yoff + yn ≤ T.length := by rw [hyn]; exact HG.1
            have HYN := Lib.hid hyn
            have HLL := Lib.hid HA.out.1
            have HYR := Lib.hid (hyr.below HBl.out HDg.out)
            clear hp hit HG hyn hyr
            have b1 : ((0 : Int) ≤ (yoff : Int)) := by omega
            have b2 : ((yoff : Int) ≤ (T.length : Int)) := by omega
            go_wp2
            have HBa := Lib.hid (HBu.out.alloc (.cells #[.slice ya yn yc, .int .u32 yoff] 49))
            have HBb := Lib.hid (HBl.out.alloc HBl.out.size (.cells #[.slice ya yn yc, .int .u32 yoff] 49))
            have HYA : Hid (0 < (byteCells yB).length → ∃ ad, ya = some ad ∧ ∀ j v, (byteCells yB)[j]? = some v → ((wr.alloc (.cells #[.slice ya yn yc, .int .u32 yoff] 49)).drew).cell? (ad.add j) = some v) := Lib.hid (by
              intro h0
              rw [byteCells_length, ← HYN.out] at h0
              obtain ⟨b, o, e, hb, hc⟩ := HYR.out h0
              refine ⟨_, e, fun j v hv => ?_⟩
              have hj : j < yn := by
                have := (List.getElem?_eq_some_iff.1 hv).1; rw [byteCells_length, ← HYN.out] at this; exact this
              rw [Go.WideShapes.add_plain]
              have h3 := hc j hj
              have h4 : (wr.alloc (.cells #[.slice ya yn yc, .int .u32 yoff] 49)).cell? ⟨b, o + j, none⟩ = some (byteAt yB j) := by
                rw [World.cell?_of_block (w := wr) (Below.heap_alloc _ _ _ (block_lt_of_cell h3))]; exact h3
              have h5 : ((wr.alloc (.cells #[.slice ya yn yc, .int .u32 yoff] 49)).drew).cell? ⟨b, o + j, none⟩ = some (byteAt yB j) := h4
              rw [h5, ← hv]
              simp [byteCells, byteAt, show j < yB.length by rw [← HYN.out]; exact hj])
            have HD1 : Hid (∀ w', Hid (w'.heap[w.heap.size]? = some (.cells (splice (byteCells l) yoff (byteCells yB)).toArray 5 (0, 0))) → Buf w' w.heap.size (splice l yoff yB)) := Lib.hid (fun w' h => by have := h.out; rw [splice_byteCells] at this; exact this)
            have HLn : Hid ((byteCells yB).length = yn) := Lib.hid (by rw [byteCells_length, HYN.out])
            by_cases hoL : T.length = yoff
            · subst hoL
              go_region_law (refine step_copy_splice rfl (.tmp 73) (.tmp 75) 31 31 rfl 5 Try.underlying31 size5 _ _ _ _ _ _ rfl rfl w.heap.size T.length (byteCells l) 5 HBa.out (byteCells yB) (by rw [HLn.out]; simp [Nat.min_def]; omega) (by intro h; rw [HLn.out] at h; omega) (by rw [byteCells_length, byteCells_length, HLL.out, ← HYN.out]; exact hfit) (byteCells_one _) w.heap.size w HBb.out.drew (Nat.le_refl _) ?_; intro w2 hg2 hb2; have HBc := Lib.hid (HD1.out _ hg2); have HBd := Lib.hid hb2; clear hg2 hb2)
              all_goals
                go_wp2
                go_roundw
                case rel => exact ⟨k + 1, _, by omega, by go_num, HBc.out, by rw [take_snoc' _ _ _ HIT.out, ← List.append_assoc]; exact HA.out.step HG2.out.1 HG2.out.2, HBd.out⟩
                case measure => simp [intOf]; omega
            · go_region_law (refine step_copy_splice rfl (.tmp 73) (.tmp 75) 31 31 rfl 5 Try.underlying31 size5 _ _ _ _ _ _ rfl rfl w.heap.size yoff (byteCells l) 5 HBa.out (byteCells yB) (by rw [HLn.out]; simp [Nat.min_def]; omega) (by intro h; exact ⟨rfl, HYA.out h⟩) (by rw [byteCells_length, byteCells_length, HLL.out, ← HYN.out]; exact hfit) (byteCells_one _) w.heap.size w HBb.out.drew (Nat.le_refl _) ?_; intro w2 hg2 hb2; have HBc := Lib.hid (HD1.out _ hg2); have HBd := Lib.hid hb2; clear hg2 hb2)
              all_goals
                go_wp2
                go_roundw
                case rel => exact ⟨k + 1, _, by omega, by go_num, HBc.out, by rw [take_snoc' _ _ _ HIT.out, ← List.append_assoc]; exact HA.out.step HG2.out.1 HG2.out.2, HBd.out⟩
                case measure => simp [intOf]; omega
          · obtain rfl : k = Y.length := by omega
            have hlT : l = T := Agree.all (by have := HA.out; rw [List.take_of_length_le (by simp [itY])] at this; exact this) A10.out
            have HR := Lib.hid (show Row wr (some ⟨w.heap.size, 0, none⟩) T.length (byteAt T) by have := HBu.out.row; rw [hlT] at this; exact this)
            clear hlT
            go_wp2
            go_ret
            exact ⟨_, _, rfl, HR.out, HBl.out⟩

theorem done (w : World) (D g : Nat) (gs gb : Option Nat) (S : List (ByteArray × Nat)) (Y : List BItem) (T : List UInt8) (h : Jn w D g gs gb S Y T) (hT : T.length ≤ 1048576) (hS : S.length ≤ 1048576) (hY : Y.length ≤ 1048576) :
    Calls Try.prog 13 #[.pointer (some ⟨g, 0, none⟩)] w (DoneP w T) := by
  by_cases hne : S.length ≠ 0 ∨ Y.length ≠ 1
  · exact done_many w D g gs gb S Y T h hT hS hY hne
  · obtain ⟨h1, h2⟩ : S.length = 0 ∧ Y.length = 1 := by omega
    obtain rfl : S = [] := List.eq_nil_of_length_eq_zero h1
    obtain ⟨y, rfl⟩ := List.length_eq_one_iff.1 h2
    exact done_one w D g gs gb y T h hT
end Go.Proofs.Ythcfdoaeefnemaa.jn
