/-
  Relocated declarations: the parser's state, joining expressions, the usage count.
-/
import Derived.Test.YthhlioepgfjknaaTb
import Derived.BigFrame
import Derived.Lib.FrozenHead2
namespace Go.Proofs.Ythhlioepgfjknaa.rl
open Go.ChangeShapes Go.WideShapes Go.ChangeAt Go.RowKit Go.Deep Go.Proofs.Ythhlioepgfjknaa.ch
set_option linter.unusedVariables false
set_option linter.unusedSimpArgs false
set_option maxRecDepth 100000
set_option maxHeartbeats 4000000
abbrev ptr (b : Nat) : Value := .pointer (some ⟨b, 0, none⟩)
/-- The parser at block p and its symbols at block s. -/
structure St (w : World) (p s n : Nat) (mode : Int) (cur mod : Nat) (depth : Int) (rv : Value) : Prop where
  par : ∃ G, RowG w p 196 353 G ∧ G 32 = .bool false ∧ G 34 = .int .u8 mode ∧ G 104 = ptr cur ∧ G 105 = .pointer none ∧ G 106 = .slice (some ⟨s, 0, none⟩) n n ∧ G 187 = ptr mod ∧ G 196 = rv ∧ G 339 = .int .i64 depth ∧ G 350 = .bool false
  sym : ∃ U, RowG w s 279 (n * 10) U ∧ ∀ i, i < n → ∃ z : Int, U (i * 10 + 4) = .int .u32 z
  ne : p ≠ s
section
variable {w w' : World} {p s n cur mod : Nat} {mode depth : Int} {rv : Value}
theorem St.of_blocks (h : St w p s n mode cur mod depth rv) (h1 : w'.heap[p]? = w.heap[p]?) (h2 : w'.heap[s]? = w.heap[s]?) : St w' p s n mode cur mod depth rv := by
  obtain ⟨⟨G, hG, hr⟩, ⟨U, hU, hu⟩, ne⟩ := h
  exact ⟨⟨G, hG.of_block h1, hr⟩, ⟨U, hU.of_block h2, hu⟩, ne⟩
theorem St.lt (h : St w p s n mode cur mod depth rv) : p < w.heap.size ∧ s < w.heap.size := by
  obtain ⟨⟨G, hG, hr⟩, ⟨U, hU, hu⟩, ne⟩ := h
  exact ⟨hG.lt, hU.lt⟩
theorem St.touch {F : Nat → Prop} (h : St w p s n mode cur mod depth rv) (ht : ch.Touch F w w') (hp : ¬ F p) (hs : ¬ F s) : St w' p s n mode cur mod depth rv :=
  h.of_blocks (ht.block p h.lt.1 hp) (ht.block s h.lt.2 hs)
theorem St.below {B : Nat} (h : St w p s n mode cur mod depth rv) (ht : Below B w w') (hp : p < B) (hs : s < B) : St w' p s n mode cur mod depth rv :=
  h.of_blocks (ht.block p hp) (ht.block s hs)
theorem St.alloc (h : St w p s n mode cur mod depth rv) (o : Obj) : St (w.alloc o) p s n mode cur mod depth rv :=
  h.of_blocks (Below.heap_alloc _ _ _ h.lt.1) (Below.heap_alloc _ _ _ h.lt.2)
theorem St.drew (h : St w p s n mode cur mod depth rv) : St w.drew p s n mode cur mod depth rv := h.of_blocks rfl rfl
theorem St.c32 (h : St w p s n mode cur mod depth rv) : w.cell? ⟨p, 32, none⟩ = some (.bool false) := by obtain ⟨⟨G, hG, h1, h2, h3, h4, h5, h6, h7, h8, h9⟩, _⟩ := h; rw [hG.cell (by omega), h1]
theorem St.c34 (h : St w p s n mode cur mod depth rv) : w.cell? ⟨p, 34, none⟩ = some (.int .u8 mode) := by obtain ⟨⟨G, hG, h1, h2, h3, h4, h5, h6, h7, h8, h9⟩, _⟩ := h; rw [hG.cell (by omega), h2]
theorem St.c104 (h : St w p s n mode cur mod depth rv) : w.cell? ⟨p, 104, none⟩ = some (ptr cur) := by obtain ⟨⟨G, hG, h1, h2, h3, h4, h5, h6, h7, h8, h9⟩, _⟩ := h; rw [hG.cell (by omega), h3]
theorem St.c105 (h : St w p s n mode cur mod depth rv) : w.cell? ⟨p, 105, none⟩ = some (.pointer none) := by obtain ⟨⟨G, hG, h1, h2, h3, h4, h5, h6, h7, h8, h9⟩, _⟩ := h; rw [hG.cell (by omega), h4]
theorem St.c106 (h : St w p s n mode cur mod depth rv) : w.cell? ⟨p, 106, none⟩ = some (.slice (some ⟨s, 0, none⟩) n n) := by obtain ⟨⟨G, hG, h1, h2, h3, h4, h5, h6, h7, h8, h9⟩, _⟩ := h; rw [hG.cell (by omega), h5]
theorem St.c187 (h : St w p s n mode cur mod depth rv) : w.cell? ⟨p, 187, none⟩ = some (ptr mod) := by obtain ⟨⟨G, hG, h1, h2, h3, h4, h5, h6, h7, h8, h9⟩, _⟩ := h; rw [hG.cell (by omega), h6]
theorem St.c196 (h : St w p s n mode cur mod depth rv) : w.cell? ⟨p, 196, none⟩ = some rv := by obtain ⟨⟨G, hG, h1, h2, h3, h4, h5, h6, h7, h8, h9⟩, _⟩ := h; rw [hG.cell (by omega), h7]
theorem St.c339 (h : St w p s n mode cur mod depth rv) : w.cell? ⟨p, 339, none⟩ = some (.int .i64 depth) := by obtain ⟨⟨G, hG, h1, h2, h3, h4, h5, h6, h7, h8, h9⟩, _⟩ := h; rw [hG.cell (by omega), h8]
theorem St.c350 (h : St w p s n mode cur mod depth rv) : w.cell? ⟨p, 350, none⟩ = some (.bool false) := by obtain ⟨⟨G, hG, h1, h2, h3, h4, h5, h6, h7, h8, h9⟩, _⟩ := h; rw [hG.cell (by omega), h9]
theorem St.fz (h : St w p s n mode cur mod depth rv) (q : Nat) : w.frozen? ⟨p, q, none⟩ = false := by obtain ⟨⟨G, hG, _⟩, _⟩ := h; exact hG.frozen q
theorem St.fzs (h : St w p s n mode cur mod depth rv) (q : Nat) : w.frozen? ⟨s, q, none⟩ = false := by obtain ⟨_, ⟨U, hU, _⟩, _⟩ := h; exact hU.frozen q
theorem St.csym (h : St w p s n mode cur mod depth rv) {i : Nat} (hi : i < n) : ∃ z : Int, w.cell? ⟨s, i * 10 + 4, none⟩ = some (.int .u32 z) := by
  obtain ⟨_, ⟨U, hU, hu⟩, _⟩ := h
  obtain ⟨z, hz⟩ := hu i hi
  exact ⟨z, by rw [hU.cell (by omega), hz]⟩
/-- The list's head is set. -/
theorem St.put (h : St w p s n mode cur mod depth rv) (v : Value) : St (w.setCell ⟨p, 196, none⟩ v) p s n mode cur mod depth v := by
  obtain ⟨⟨G, hG, h1, h2, h3, h4, h5, h6, h7, h8, h9⟩, ⟨U, hU, hu⟩, ne⟩ := h
  refine ⟨⟨_, hG.set 196 v, ?_⟩, ⟨U, hU.other _ _ (by exact fun e => ne e.symm), hu⟩, ne⟩
  simp [h1, h2, h3, h4, h5, h6, h8, h9]
/-- A count is set. -/
theorem St.count (h : St w p s n mode cur mod depth rv) {i : Nat} (hi : i < n) (z : Int) : St (w.setCell ⟨s, i * 10 + 4, none⟩ (.int .u32 z)) p s n mode cur mod depth rv := by
  obtain ⟨⟨G, hG, hr⟩, ⟨U, hU, hu⟩, ne⟩ := h
  refine ⟨⟨G, hG.other _ _ (by exact ne), hr⟩, ⟨_, hU.set (i * 10 + 4) (.int .u32 z), fun j hj => ?_⟩, ne⟩
  by_cases e : j * 10 + 4 = i * 10 + 4
  · exact ⟨z, by simp [e]⟩
  · obtain ⟨y, hy⟩ := hu j hj
    exact ⟨y, by rw [if_neg e]; exact hy⟩
end
/-- What stands for a thing that is there. -/
def NN (d : Value) : Prop := ∃ T b, d = .iface T (ptr b)
theorem NN.ne {d : Value} (h : NN d) : d ≠ .nilIface := by rintro rfl; obtain ⟨T, b, h⟩ := h; cases h
theorem be4 (w : World) (a b c d : Obj) : Below w.heap.size w ((((w.alloc a).alloc b).alloc c).alloc d) :=
  ((((Below.refl _ _).alloc (Nat.le_refl _) _).alloc (by simp) _).alloc (by simp; omega) _).alloc (by simp; omega) _
theorem be3 (w : World) (a b c : Obj) : Below w.heap.size w (((w.alloc a).alloc b).alloc c) :=
  (((Below.refl _ _).alloc (Nat.le_refl _) _).alloc (by simp) _).alloc (by simp; omega) _
def ExprP (w : World) (l : Int) (e : Ending) (w' : World) : Prop := (∃ d, e = .returned (.agg #[d, .int .i32 l]) ∧ NN d) ∧ Below w.heap.size w w'
theorem assign45 (w : World) (d1 d2 : Value) (l1 l2 : Int) : Calls Try.prog 45 #[.agg #[d1, .int .i32 l1], .agg #[d2, .int .i32 l2]] w (ExprP w l1) := by
  go_enter Try.func45, Try.ntmps45
  go_wp2_with fail
  refine bodyPost_ret (v := .agg #[.iface 247 (ptr (w.heap.size + 1 + 1 + 1)), .int .i32 l1]) (by simp [results, Try.results45, go_sem]) rfl ⟨⟨_, rfl, _, _, rfl⟩, be4 ..⟩
theorem joinNil44 (w : World) (d2 : Value) (l1 l2 : Int) (h2 : NN d2) : Calls Try.prog 44 #[.agg #[.nilIface, .int .i32 l1], .agg #[d2, .int .i32 l2]] w (ExprP w l2) := by
  obtain ⟨T2, b2, rfl⟩ := h2
  go_enter Try.func44, Try.ntmps44
  go_wp2_with fail
  refine bodyPost_ret (v := .agg #[.iface T2 (ptr b2), .int .i32 l2]) (by simp [results, Try.results44, go_sem]) rfl ⟨⟨_, rfl, _, _, rfl⟩, be3 ..⟩
theorem join44 (w : World) (d1 d2 : Value) (l1 l2 : Int) (h1 : NN d1) (h2 : NN d2) : Calls Try.prog 44 #[.agg #[d1, .int .i32 l1], .agg #[d2, .int .i32 l2]] w (ExprP w l1) := by
  obtain ⟨T, b, rfl⟩ := h1
  obtain ⟨T2, b2, rfl⟩ := h2
  go_enter Try.func44, Try.ntmps44
  go_wp2_with fail
  refine bodyPost_ret (v := .agg #[.iface 247 (ptr (w.heap.size + 1 + 1 + 1)), .int .i32 l1]) (by simp [results, Try.results44, go_sem]) rfl ⟨⟨_, rfl, _, _, rfl⟩, be4 ..⟩
/-- zzMode_b3. -/
theorem mode37 (w : World) (c : Nat) (hc : c < 256) : Calls Try.prog 37 #[.int .u8 c] w fun e w' => e = .returned (.int .u8 ((c % 3 : Nat) : Int)) ∧ w = w' := by
  have hm : c % 3 = 0 ∨ c % 3 = 1 ∨ c % 3 = 2 := by omega
  have e1 : (c : Int) % 3 = ((c % 3 : Nat) : Int) := rfl
  have e2 : (c : Int).tmod 3 = ((c % 3 : Nat) : Int) := rfl
  generalize c % 3 = m at *
  rcases hm with rfl | rfl | rfl
  all_goals
    go_enter Try.func37, Try.ntmps37
    go_wp2_with fail
    go_ret
    exact ⟨rfl, rfl⟩
/-- zzRaw_b3 with no places given. -/
theorem raw38 (w : World) (k : Nat) (hk : k ≤ 65536) : Calls Try.prog 38 #[.slice none 0 0, .int .i64 k] w fun e w' => e = .returned (.int .i32 (k : Int)) ∧ w = w' := by
  have e1 : IntKind.i32.wrap (k : Int) = (k : Int) := Go.IntWalk.i32_in _ (by omega)
  go_enter Try.func38, Try.ntmps38
  go_wp2_with fail
  go_ret
  exact ⟨by first | rfl | trivial, by first | rfl | trivial⟩
/-- StopsHoisting. -/
theorem stops40 (w : World) (k : Int) (b : Bool) (hb : decide (6 ≤ k) = b) : Calls Try.prog 40 #[.int .u8 k] w fun e w' => e = .returned (.bool b) ∧ w = w' := by
  go_enter Try.func40, Try.ntmps40
  go_wp2_with fail
  go_ret
  exact ⟨by first | rfl | trivial, by first | rfl | trivial⟩
def UseP (w : World) (p s n : Nat) (mode : Int) (cur mod : Nat) (depth : Int) (rv : Value) (e : Ending) (w' : World) : Prop := e = .returned (.tuple #[]) ∧ St w' p s n mode cur mod depth rv ∧ ch.Touch (fun k => k = s) w w'
/-- recordUsage. -/
theorem use42 (w : World) (p s n : Nat) (mode : Int) (cur mod : Nat) (depth : Int) (rv : Value) (i : Nat) (h : St w p s n mode cur mod depth rv) (hi : i < n) (hn : n ≤ 65536) :
    Calls Try.prog 42 #[ptr p, .agg #[.int .u32 0, .int .u32 i]] w (UseP w p s n mode cur mod depth rv) := by
  have H := Lib.hid h
  have hlt := h.lt
  obtain ⟨hg, hg1⟩ := hlt
  have c1 := h.c350
  have c2 := h.c106
  obtain ⟨z, c3⟩ := h.csym hi
  have f3 := h.fzs (i * 10 + 4)
  clear h
  go_enter Try.func42, Try.ntmps42
  go_wp2
  go_region
  all_goals
    have H1 := Lib.hid ((((H.out.count hi ((z + 1) % 4294967296)).alloc (.cells #[.int .u32 0, .int .u32 i] 74))).drew)
    have T1 : Hid (ch.Touch (fun k => k = s) w (((w.setCell ⟨s, i * 10 + 4, none⟩ (.int .u32 ((z + 1) % 4294967296))).alloc (.cells #[.int .u32 0, .int .u32 i] 74)).drew)) := Lib.hid (((((ch.Touch.refl (fun k => k = s) w).setCell ⟨s, i * 10 + 4, none⟩ (fun _ => rfl) _).alloc _).drew))
    clear c1 c2 c3 f3
    generalize (((w.setCell ⟨s, i * 10 + 4, none⟩ (.int .u32 ((z + 1) % 4294967296))).alloc (.cells #[.int .u32 0, .int .u32 i] 74)).drew) = w1 at *
    have d2 := H1.out.c32
    have d5 := H1.out.c105
    go_wp2
    go_end0
    exact ⟨rfl, H1.out, T1.out⟩
end Go.Proofs.Ythhlioepgfjknaa.rl
