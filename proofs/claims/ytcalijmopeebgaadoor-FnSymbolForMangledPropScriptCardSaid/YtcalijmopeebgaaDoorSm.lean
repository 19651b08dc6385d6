/-
  Mangled properties: symbolForMangledProp.
-/
import Derived.Test.YtcalijmopeebgaaDoorNs
import Derived.Laws.OwnMore
import Derived.Carry
namespace Go.Proofs.YtcalijmopeebgaaDoor.mp
open Go.ChangeShapes Go.WideShapes Go.ChangeAt Go.RowKit Go.Deep Go.Proofs.YtcalijmopeebgaaDoor.mk
set_option linter.unusedVariables false
set_option linter.unusedSimpArgs false

def flat (ia ib : Int) (L : List (ByteArray × Nat)) : List Value := L.flatMap (fun x => symC x.1 x.2 ia ib)
theorem symC_len (s : ByteArray) (u : Nat) (ia ib : Int) : (symC s u ia ib).length = 10 := rfl
theorem flat_len (ia ib : Int) : ∀ L, (flat ia ib L).length = L.length * 10
  | [] => rfl
  | x :: L => by have := flat_len ia ib L; simp only [flat, List.flatMap_cons, List.length_append, symC_len, List.length_cons] at this ⊢; omega
theorem flat_get (ia ib : Int) : ∀ (L : List (ByteArray × Nat)) (k j : Nat) (s : ByteArray) (u : Nat), L[k]? = some (s, u) → j < 10 → (flat ia ib L)[k * 10 + j]? = (symC s u ia ib)[j]?
  | [], k, j, s, u, h, _ => by simp at h
  | x :: L, 0, j, s, u, h, hj => by
    simp only [List.getElem?_cons_zero, Option.some.injEq] at h; subst h
    simp only [flat, List.flatMap_cons]
    rw [List.getElem?_append_left (by rw [symC_len]; omega)]; simp
  | x :: L, k + 1, j, s, u, h, hj => by
    simp only [List.getElem?_cons_succ] at h
    have := flat_get ia ib L k j s u h hj
    simp only [flat, List.flatMap_cons] at this ⊢
    rw [List.getElem?_append_right (by rw [symC_len]; omega), symC_len, ← this]
    congr 1; omega
def incU (x : ByteArray × Nat) : ByteArray × Nat := (x.1, x.2 + 1)
theorem flat_set (ia ib : Int) : ∀ (L : List (ByteArray × Nat)) (k : Nat) (s : ByteArray) (u : Nat), L[k]? = some (s, u) → (flat ia ib L).set (k * 10 + 4) (.int .u32 ((u + 1 : Nat) : Int)) = flat ia ib (L.modify k incU)
  | [], k, s, u, h => by simp at h
  | x :: L, 0, s, u, h => by
    simp only [List.getElem?_cons_zero, Option.some.injEq] at h; subst h
    simp [flat, symC, incU]
  | x :: L, k + 1, s, u, h => by
    simp only [List.getElem?_cons_succ] at h
    have := flat_set ia ib L k s u h
    simp only [flat, List.flatMap_cons, List.modify_succ_cons] at this ⊢
    rw [List.set_append_right _ _ (by rw [symC_len]; omega), symC_len, ← this]
    congr 2; omega
theorem ownsRow_set {w : World} {base g n cap : Nat} {e : TypeId} {size : Nat} {xs : List Value} (h : w.ownsRow base e size (.slice (some ⟨g, 0, none⟩) n cap) n xs) (i : Nat) (hi : i < n * size) (u : Value) :
    (w.setCell ⟨g, i, none⟩ u).ownsRow base e size (.slice (some ⟨g, 0, none⟩) n cap) n (xs.set i u) := by
  obtain ⟨h1, h2⟩ := h
  refine ⟨by simpa using h1, ?_⟩
  rcases h2 with ⟨h2, _⟩ | ⟨q, cap', cur, e1, hb, hh, hn, hm, hc, ht⟩
  · cases h2
  · simp only [Value.slice.injEq, Option.some.injEq, Addr.mk.injEq, true_and, and_true] at e1
    obtain ⟨rfl, rfl⟩ := e1
    refine .inr ⟨g, cap, cur.setIfInBounds i u, rfl, hb, ?_, hn, hm, by simpa using hc, ?_⟩
    · simp [World.setCell, Array.getElem?_modify, hh]
    · rw [Array.toList_setIfInBounds, List.take_set, ht]
def pos (L : List (ByteArray × Nat)) (s : ByteArray) : Option Nat := L.findIdx? (fun x => x.1 == s)
theorem pos_some {L : List (ByteArray × Nat)} {s : ByteArray} {k : Nat} (h : pos L s = some k) : ∃ u, L[k]? = some (s, u) := by
  obtain ⟨hk, h1, _⟩ := List.findIdx?_eq_some_iff_getElem.1 h
  exact ⟨L[k].2, by rw [List.getElem?_eq_getElem hk, ← (bytes_beq _ _).1 h1]⟩
theorem pos_modify (L : List (ByteArray × Nat)) (k : Nat) (s : ByteArray) : pos (L.modify k incU) s = pos L s := by
  unfold pos
  induction L generalizing k with
  | nil => simp
  | cons x L ih =>
    cases k with
    | zero => simp [List.findIdx?_cons, incU]
    | succ k => simp only [List.modify_succ_cons, List.findIdx?_cons, ih]
theorem pos_snoc (L : List (ByteArray × Nat)) (s : ByteArray) (u : Nat) (h : pos L s = none) (s' : ByteArray) : pos (L ++ [(s, u)]) s' = if s' = s then some L.length else pos L s' := by
  unfold pos at h ⊢
  rw [List.findIdx?_append]
  by_cases e : s' = s
  · subst e
    have hb : (s' == s') = true := (bytes_beq s' s').2 rfl
    rw [h, if_pos rfl]; simp [List.findIdx?_cons, hb]
  · have hb : (s == s') = false := by
      rcases hb : (s == s') with _ | _
      · rfl
      · exact absurd ((bytes_beq s s').1 hb).symm e
    rw [if_neg e]; simp [List.findIdx?_cons, hb]
def lookL (src : Int) (L : List (ByteArray × Nat)) : Value → Option Value
  | .string s => (pos L s).map (fun (k : Nat) => Value.agg #[.int .u32 src, .int .u32 (k : Int)])
  | _ => none
/-- A block that is none of the parser's. -/
def Far (b g : Nat) (sv : Value) (m : Option Nat) : Prop := b ≠ g ∧ sv.ownBlock ≠ some b ∧ m ≠ some b
structure Keep (w w' : World) (g : Nat) (sv : Value) (m : Option Nat) (sv' : Value) (m' : Option Nat) : Prop where
  os : w'.os = w.os
  tape : w'.tape = w.tape
  output : w'.output = w.output
  size : w.heap.size ≤ w'.heap.size
  far : ∀ b, b < w.heap.size → Far b g sv m → Far b g sv' m' ∧ w'.heap[b]? = w.heap[b]?
theorem Keep.refl (w : World) (g : Nat) (sv : Value) (m : Option Nat) : Keep w w g sv m sv m := ⟨rfl, rfl, rfl, Nat.le_refl _, fun _ _ h => ⟨h, rfl⟩⟩
theorem Keep.trans {a b c : World} {g : Nat} {sv sv' sv'' : Value} {m m' m'' : Option Nat} (h : Keep a b g sv m sv' m') (k : Keep b c g sv' m' sv'' m'') : Keep a c g sv m sv'' m'' :=
  ⟨k.os.trans h.os, k.tape.trans h.tape, k.output.trans h.output, Nat.le_trans h.size k.size, fun i hi hf => by
    obtain ⟨h1, h2⟩ := h.far i hi hf
    obtain ⟨h3, h4⟩ := k.far i (Nat.lt_of_lt_of_le hi h.size) h1
    exact ⟨h3, h4.trans h2⟩⟩
theorem Keep.of_touch {w w' : World} {g : Nat} {sv : Value} {m : Option Nat} {F : Nat → Prop} (h : Touch F w w') (hF : ∀ b, b < w.heap.size → F b → ¬ Far b g sv m) : Keep w w' g sv m sv m :=
  ⟨h.os, h.tape, h.output, h.size, fun b hb hf => ⟨hf, h.block b hb (fun f => hF b hb f hf)⟩⟩
/-- The parser's state: the symbols L. -/
structure Mp (w : World) (g : Nat) (src : Int) (dead : Bool) (ia ib : Int) (L : List (ByteArray × Nat)) (sv : Value) (m : Option Nat) : Prop where
  pm : Pm w g src dead sv m
  inv : Inv w ia ib
  row : w.ownsRow 0 168 10 sv L.length (flat ia ib L)
  map : (m = none ∧ L = []) ∨ ∃ gm, m = some gm ∧ MapIs w gm StrKey L.length (lookL src L)
  ne : sv.ownBlock ≠ some g
  mg : m ≠ some g
  mn : ∀ b, m = some b → sv.ownBlock ≠ some b
  z : Far 0 g sv m
theorem Mp.keep {w w' : World} {g : Nat} {src : Int} {dead : Bool} {ia ib : Int} {L : List (ByteArray × Nat)} {sv : Value} {m : Option Nat} (h : Mp w g src dead ia ib L sv m) (e : ∀ b, b < w.heap.size → (b = 0 ∨ b = g ∨ sv.ownBlock = some b ∨ m = some b) → w'.heap[b]? = w.heap[b]?) : Mp w' g src dead ia ib L sv m := by
  have e0 := e 0 h.inv.lt (.inl rfl)
  refine ⟨h.pm.of_block (e g h.pm.lt (.inr (.inl rfl))), ⟨(World.cell?_of_block (a := ⟨0, 0, none⟩) e0).trans h.inv.1, (World.cell?_of_block (a := ⟨0, 1, none⟩) e0).trans h.inv.2⟩, ?_, ?_, h.ne, h.mg, h.mn, h.z⟩
  · obtain ⟨h1, h2⟩ := h.row
    refine ⟨h1, ?_⟩
    rcases h2 with h2 | ⟨q, cap, cur, rfl, hb, hh, r⟩
    · exact .inl h2
    · exact .inr ⟨q, cap, cur, rfl, hb, (e q (lt_of_block hh) (.inr (.inr (.inl rfl)))).trans hh, r⟩
  · rcases h.map with h | ⟨gm, rfl, hm⟩
    · exact .inl h
    · exact .inr ⟨gm, rfl, hm.of_block (e gm hm.lt (.inr (.inr (.inr rfl))))⟩
theorem Mp.alloc {w : World} {g : Nat} {src : Int} {dead : Bool} {ia ib : Int} {L : List (ByteArray × Nat)} {sv : Value} {m : Option Nat} (h : Mp w g src dead ia ib L sv m) (o : Obj) : Mp (w.alloc o) g src dead ia ib L sv m := h.keep (fun b hb _ => Below.heap_alloc _ _ _ hb)
theorem Mp.drew {w : World} {g : Nat} {src : Int} {dead : Bool} {ia ib : Int} {L : List (ByteArray × Nat)} {sv : Value} {m : Option Nat} (h : Mp w g src dead ia ib L sv m) : Mp w.drew g src dead ia ib L sv m := h.keep (fun b hb _ => rfl)
theorem Mp.setFar {w : World} {g : Nat} {src : Int} {dead : Bool} {ia ib : Int} {L : List (ByteArray × Nat)} {sv : Value} {m : Option Nat} (h : Mp w g src dead ia ib L sv m) {R : Nat} (h0 : R ≠ 0) (hf : Far R g sv m) (i : Nat) (v : Value) : Mp (w.setCell ⟨R, i, none⟩ v) g src dead ia ib L sv m := h.keep (fun b hb hc => Below.heap_setCell _ _ _ _ (by
    rintro rfl
    rcases hc with hc | hc | hc | hc
    · exact h0 hc
    · exact hf.1 hc
    · exact hf.2.1 hc
    · exact hf.2.2 hc))
/-- Whatever lies at or past the heap's end is far. -/
theorem Mp.farNew {w : World} {g : Nat} {src : Int} {dead : Bool} {ia ib : Int} {L : List (ByteArray × Nat)} {sv : Value} {m : Option Nat} (h : Mp w g src dead ia ib L sv m) {R : Nat} (hR : w.heap.size ≤ R) : R ≠ 0 ∧ Far R g sv m := by
  have h1 := h.pm.lt
  have h2 := h.inv.lt
  refine ⟨by omega, by omega, fun e => by have := (h.row.lt R e).2; omega, fun e => ?_⟩
  rcases h.map with ⟨h, _⟩ | ⟨gm, h, hm⟩
  · rw [h] at e; cases e
  · rw [h] at e; cases e; have := hm.lt; omega
theorem Mp.farOf {w : World} {g : Nat} {src : Int} {dead : Bool} {ia ib : Int} {L : List (ByteArray × Nat)} {sv : Value} {gm : Nat} (h : Mp w g src dead ia ib L sv (some gm)) {R : Nat} {cs : Array Value} {t : TypeId} {fr : Nat × Nat} (hb : w.heap[R]? = some (.cells cs t fr)) (hg : R ≠ g ∧ R ≠ 0 ∧ sv.ownBlock ≠ some R) : R ≠ 0 ∧ Far R g sv (some gm) := by
  refine ⟨hg.2.1, hg.1, hg.2.2, fun e => ?_⟩
  cases e
  rcases h.map with ⟨h, _⟩ | ⟨gm', h, es, cl, hm, _⟩
  · cases h
  · cases h; rw [hb] at hm; cases hm
theorem Mp.bump {w : World} {g : Nat} {src : Int} {dead : Bool} {ia ib : Int} {L : List (ByteArray × Nat)} {q cap : Nat} {m : Option Nat} (h : Mp w g src dead ia ib L (.slice (some ⟨q, 0, none⟩) L.length cap) m) {k u : Nat} {s : ByteArray} (hk : L[k]? = some (s, u)) {v : Int} (hv : v = ((u + 1 : Nat) : Int)) :
    Mp (w.setCell ⟨q, k * 10 + 4, none⟩ (.int .u32 v)) g src dead ia ib (L.modify k incU) (.slice (some ⟨q, 0, none⟩) (L.modify k incU).length cap) m := by
  subst hv
  have hlt : k < L.length := by
    rcases Nat.lt_or_ge k L.length with h | h
    · exact h
    · rw [List.getElem?_eq_none h] at hk; cases hk
  have bl : ∀ b, b ≠ q → (w.setCell ⟨q, k * 10 + 4, none⟩ (.int .u32 ((u + 1 : Nat) : Int))).heap[b]? = w.heap[b]? := fun b hb => Below.heap_setCell _ _ _ _ hb
  have e0 := bl 0 (fun e => h.z.2.1 (by rw [e]; rfl))
  have eg := bl g (fun e => h.ne (by rw [e]; rfl))
  rw [List.length_modify]
  refine ⟨h.pm.of_block eg, ⟨(World.cell?_of_block (a := ⟨0, 0, none⟩) e0).trans h.inv.1, (World.cell?_of_block (a := ⟨0, 1, none⟩) e0).trans h.inv.2⟩, ?_, ?_, h.ne, h.mg, h.mn, h.z⟩
  · rw [← flat_set ia ib L k s u hk, List.length_modify]
    exact ownsRow_set h.row _ (by omega) _
  · rcases h.map with ⟨_, h0⟩ | ⟨gm, rfl, hm⟩
    · subst h0; simp at hlt
    · refine .inr ⟨gm, rfl, ?_⟩
      rw [List.length_modify]
      refine (hm.of_block (bl gm (fun e => h.mn gm rfl (by rw [e]; rfl)))).congr (fun v => ?_)
      cases v <;> simp [lookL, pos_modify]
theorem Keep.setOwn (w : World) (g q i n n' cap : Nat) (m : Option Nat) (v : Value) : Keep w (w.setCell ⟨q, i, none⟩ v) g (.slice (some ⟨q, 0, none⟩) n cap) m (.slice (some ⟨q, 0, none⟩) n' cap) m :=
  ⟨rfl, rfl, rfl, by simp [World.setCell], fun b _ hf => ⟨hf, Below.heap_setCell _ _ _ _ (fun e => hf.2.1 (by rw [e]; rfl))⟩⟩
theorem Keep.setNew {w w' : World} {g : Nat} {sv sv' : Value} {m m' : Option Nat} (h : Keep w w' g sv m sv' m') {R : Nat} (hR : w.heap.size ≤ R) (i : Nat) (v : Value) : Keep w (w'.setCell ⟨R, i, none⟩ v) g sv m sv' m' :=
  ⟨h.os, h.tape, h.output, by rw [show (w'.setCell ⟨R, i, none⟩ v).heap.size = w'.heap.size by simp [World.setCell]]; exact h.size, fun b hb hf => ⟨(h.far b hb hf).1, (Below.heap_setCell _ _ _ _ (by show b ≠ R; omega)).trans (h.far b hb hf).2⟩⟩
theorem Keep.drew {w w' : World} {g : Nat} {sv sv' : Value} {m m' : Option Nat} (h : Keep w w' g sv m sv' m') : Keep w w'.drew g sv m sv' m' := ⟨h.os, h.tape, h.output, h.size, h.far⟩
theorem flat_snoc (ia ib : Int) (L : List (ByteArray × Nat)) (s : ByteArray) (u : Nat) : flat ia ib (L ++ [(s, u)]) = flat ia ib L ++ symC s u ia ib := by simp [flat]
/-- From newSymbol's end to the name's entry. -/
theorem new_pack {w w1 w2 : World} {g gm : Nat} {src : Int} {dead : Bool} {ia ib : Int} {L : List (ByteArray × Nat)} {sv : Value} {m0 : Option Nat} {s : ByteArray} {k cap X R : Nat}
    (hM : Mp w1 g src dead ia ib L sv (some gm)) (hK : Keep w w1 g sv m0 sv (some gm)) (hs : pos L s = none) (hP2 : Pm w2 g src dead (.slice (some ⟨k, 0, none⟩) (L.length + 1) cap) (some gm)) (hO2 : w2.ownsRow 0 168 10 (.slice (some ⟨k, 0, none⟩) (L.length + 1) cap) (L.length + 1) (flat ia ib L ++ symC s 0 ia ib))
    (hk : sv.ownBlock = some k ∨ w1.heap.size ≤ k) (hkg : k ≠ g) (hT : Touch (fun j => j = g ∨ sv.ownBlock = some j) w1 w2)
    (hX : w1.heap[X]? = some (.cells #[.int .u32 0, .int .u32 0] 31 (0, 0))) (hXf : X ≠ 0 ∧ Far X g sv (some gm)) (hXw : w.heap.size ≤ X)
    (hR : w1.heap[R]? = some (.cells #[.int .u32 0, .int .u32 0] 31 (0, 0))) (hRf : R ≠ 0 ∧ Far R g sv (some gm)) (hRw : w.heap.size ≤ R) (hRX : R ≠ X) :
    (w2.cell? ⟨X, 0, none⟩ = some (.int .u32 0) ∧ w2.cell? ⟨X, 1, none⟩ = some (.int .u32 0) ∧ w2.frozen? ⟨X, 0, none⟩ = false ∧ w2.frozen? ⟨X, 1, none⟩ = false) ∧
    ∃ w4, (Instr.mapUpdate 112 (.map (some gm)) (.string s) (.agg #[.int .u32 src, .int .u32 (L.length : Int)])).run Tryd.prog ((w2.setCell ⟨X, 0, none⟩ (.int .u32 src)).setCell ⟨X, 1, none⟩ (.int .u32 (L.length : Int))) = .ok () w4 ∧
      Mp w4 g src dead ia ib (L ++ [(s, 0)]) (.slice (some ⟨k, 0, none⟩) (L ++ [(s, 0)]).length cap) (some gm) ∧ Keep w w4 g sv m0 (.slice (some ⟨k, 0, none⟩) (L ++ [(s, 0)]).length cap) (some gm) ∧
      (w4.cell? ⟨X, 0, none⟩ = some (.int .u32 src) ∧ w4.cell? ⟨X, 1, none⟩ = some (.int .u32 (L.length : Int))) ∧
      (w4.cell? ⟨R, 0, none⟩ = some (.int .u32 0) ∧ w4.cell? ⟨R, 1, none⟩ = some (.int .u32 0) ∧ w4.frozen? ⟨R, 0, none⟩ = false ∧ w4.frozen? ⟨R, 1, none⟩ = false) ∧ R ≠ 0 ∧ Far R g (.slice (some ⟨k, 0, none⟩) (L ++ [(s, 0)]).length cap) (some gm) ∧ k ≠ X ∧ k ≠ R ∧ k ≠ g := by
  have hMgm : MapIs w1 gm StrKey L.length (lookL src L) := by
    rcases hM.map with ⟨h, _⟩ | ⟨gm', e, hm⟩
    · cases h
    · cases e; exact hm
  have kf : ∀ b, b < w1.heap.size → sv.ownBlock ≠ some b → k ≠ b := by
    intro b hb hne e
    rcases hk with h | h
    · exact hne (by rw [h, e])
    · omega
  have bX := (hT.block X (lt_of_block hX) (fun h => h.elim hXf.2.1 hXf.2.2.1)).trans hX
  have bR := (hT.block R (lt_of_block hR) (fun h => h.elim hRf.2.1 hRf.2.2.1)).trans hR
  have bM := hT.block gm hMgm.lt (fun h => h.elim (fun e => hM.mg (by rw [e])) (fun e => hM.mn gm rfl e))
  have b0 := hT.block 0 hM.inv.lt (fun h => h.elim hM.z.1 hM.z.2.1)
  have x0 := cell_of_row w2 X 0 _ _ _ bX
  have x1 := cell_of_row w2 X 1 _ _ _ bX
  simp only [List.getElem?_toArray, List.getElem?_cons_zero, List.getElem?_cons_succ] at x0 x1
  refine ⟨⟨x0, x1, frozen_of_row w2 X 0 _ _ bX, frozen_of_row w2 X 1 _ _ bX⟩, ?_⟩
  have kX := kf X (lt_of_block hX) hXf.2.2.1
  have kR := kf R (lt_of_block hR) hRf.2.2.1
  have kM := kf gm hMgm.lt (hM.mn gm rfl)
  have k0 := kf 0 hM.inv.lt hM.z.2.1
  have XM : gm ≠ X := fun e => hXf.2.2.2 (by rw [e])
  generalize hw3 : (w2.setCell ⟨X, 0, none⟩ (.int .u32 src)).setCell ⟨X, 1, none⟩ (.int .u32 (L.length : Int)) = w3
  have b3 : ∀ b, b ≠ X → w3.heap[b]? = w2.heap[b]? := fun b hb => by rw [← hw3]; exact (Below.heap_setCell _ _ _ _ hb).trans (Below.heap_setCell _ _ _ _ hb)
  have s3 : w3.heap.size = w2.heap.size := by rw [← hw3]; simp [World.setCell]
  have hM3 : MapIs w3 gm StrKey L.length (lookL src L) := hMgm.of_block ((b3 gm XM).trans bM)
  obtain ⟨w4, hup, hM4, hO4⟩ := hM3.put (strKey Tryd.underlying9 w3) Tryd.underlying112 ⟨s, rfl⟩ (.agg #[.int .u32 src, .int .u32 (L.length : Int)])
  have b4 : ∀ b, b ≠ X → b ≠ gm → w4.heap[b]? = w2.heap[b]? := fun b h1 h2 => (hO4.block b h2).trans (b3 b h1)
  have c0 : w3.cell? ⟨X, 0, none⟩ = some (.int .u32 src) := by
    rw [← hw3, World.cell?_setCell_other _ _ _ _ (by simp)]; exact World.cell?_setCell_same _ _ _ x0
  have c1 : w3.cell? ⟨X, 1, none⟩ = some (.int .u32 (L.length : Int)) := by
    rw [← hw3]; exact World.cell?_setCell_same _ _ _ ((World.cell?_setCell_other _ _ _ _ (by simp)).trans x1)
  have RM : R ≠ gm := fun e => hRf.2.2.2 (by rw [e])
  have bR4 := (b4 R hRX RM).trans bR
  have r0 := cell_of_row w4 R 0 _ _ _ bR4
  have r1 := cell_of_row w4 R 1 _ _ _ bR4
  simp only [List.getElem?_toArray, List.getElem?_cons_zero, List.getElem?_cons_succ] at r0 r1
  have hlen : (L ++ [(s, 0)]).length = L.length + 1 := by simp
  rw [hlen]
  refine ⟨w4, hup, ?_, ?_, ⟨(hO4.cell (p := ⟨X, 0, none⟩) (fun e => XM e.symm)).trans c0, (hO4.cell (p := ⟨X, 1, none⟩) (fun e => XM e.symm)).trans c1⟩, ⟨r0, r1, frozen_of_row w4 R 0 _ _ bR4, frozen_of_row w4 R 1 _ _ bR4⟩, hRf.1, ⟨hRf.2.1, by simp [Value.ownBlock, kR], hRf.2.2.2⟩, kX, kR, hkg⟩
  · have e0 := (b4 0 (fun e => hXf.1 e.symm) (fun e => hM.z.2.2 (by rw [e]))).trans b0
    refine ⟨hP2.of_block (b4 g (fun e => hXf.2.1 e.symm) (fun e => hM.mg (by rw [e]))), ⟨(World.cell?_of_block (a := ⟨0, 0, none⟩) e0).trans hM.inv.1, (World.cell?_of_block (a := ⟨0, 1, none⟩) e0).trans hM.inv.2⟩, ?_, .inr ⟨gm, rfl, ?_⟩, by simp [Value.ownBlock, hkg], hM.mg, fun b e => by cases e; simp [Value.ownBlock, kM], ⟨hM.z.1, by simp [Value.ownBlock, k0], hM.z.2.2⟩⟩
    · rw [hlen, flat_snoc]
      obtain ⟨h1, h2⟩ := hO2
      refine ⟨h1, ?_⟩
      rcases h2 with h2 | ⟨q, cap', cur, e, hb, hh, r⟩
      · exact .inl h2
      · refine .inr ⟨q, cap', cur, e, hb, (b4 q ?_ ?_).trans hh, r⟩
        · simp only [Value.slice.injEq, Option.some.injEq, Addr.mk.injEq] at e; omega
        · simp only [Value.slice.injEq, Option.some.injEq, Addr.mk.injEq] at e; omega
    · have hnone : lookL src L (.string s) = none := by simp [lookL, hs]
      rw [hnone] at hM4
      simp only [Option.isSome_none, Bool.false_eq_true, if_false] at hM4
      rw [hlen]
      refine hM4.congr (fun v => ?_)
      by_cases e : v = .string s
      · subst e
        rw [upd_same]; simp [lookL, pos_snoc L s 0 hs s]
      · rw [upd_other _ _ e]
        cases v <;> simp only [lookL]
        next s' => rw [pos_snoc L s 0 hs s', if_neg (fun h => e (by rw [h]))]
  · refine ⟨?_, ?_, ?_, ?_, fun b hb hf => ?_⟩
    · rw [hO4.os, ← hw3]; exact hT.os.trans hK.os
    · rw [hO4.tape, ← hw3]; exact hT.tape.trans hK.tape
    · rw [hO4.output, ← hw3]; exact hT.output.trans hK.output
    · rw [hO4.size, s3]; exact Nat.le_trans hK.size hT.size
    · obtain ⟨h1, h2⟩ := hK.far b hb hf
      have hb1 : b < w1.heap.size := Nat.lt_of_lt_of_le hb hK.size
      refine ⟨⟨h1.1, by simp [Value.ownBlock, kf b hb1 h1.2.1], h1.2.2⟩, ?_⟩
      exact ((b4 b (by omega) (fun e => h1.2.2 (by rw [e]))).trans (hT.block b hb1 (fun h => h.elim h1.1 h1.2.1))).trans h2
def stepL (dead : Bool) (L : List (ByteArray × Nat)) (k : Nat) : List (ByteArray × Nat) := if dead then L else L.modify k incU
def SmP (w : World) (g : Nat) (src : Int) (dead : Bool) (ia ib : Int) (sv : Value) (m : Option Nat) (k : Nat) (L' : List (ByteArray × Nat)) (e : Ending) (w' : World) : Prop :=
  e = .returned (.agg #[.int .u32 src, .int .u32 k]) ∧ ∃ sv' m', Mp w' g src dead ia ib L' sv' m' ∧ Keep w w' g sv m sv' m'
theorem zero31 (w : World) : (zeroValue 31).run Tryd.prog w = .ok (.agg #[.int .u32 0, .int .u32 0]) w := by kernel_rfl
theorem Mp.look {w : World} {g : Nat} {src : Int} {dead : Bool} {ia ib : Int} {L : List (ByteArray × Nat)} {sv : Value} {gm : Nat} (h : Mp w g src dead ia ib L sv (some gm)) (s : ByteArray) :
    (Instr.lookup 112 (.map (some gm)) (.string s) true).run Tryd.prog w = .ok (.tuple #[((pos L s).map (fun (k : Nat) => Value.agg #[.int .u32 src, .int .u32 (k : Int)])).getD (.agg #[.int .u32 0, .int .u32 0]), .bool (pos L s).isSome]) w := by
  rcases h.map with ⟨h, _⟩ | ⟨gm', e, hm⟩
  · cases h
  · cases e
    have := hm.look (strKey Tryd.underlying9 w) Tryd.underlying112 (zero31 w) ⟨s, rfl⟩ true
    simpa [lookL] using this

theorem eqmap (w : World) (gm : Nat) : (binOp .eql 112 (.map (some gm)) (.map none)).run Tryd.prog w = .ok (.bool false) w := by kernel_rfl
theorem eqnil (w : World) : (binOp .eql 112 (.map none) (.map none)).run Tryd.prog w = .ok (.bool true) w := by kernel_rfl
set_option maxRecDepth 100000 in
set_option maxHeartbeats 4000000 in
theorem found14 (w : World) (g : Nat) (src : Int) (dead : Bool) (ia ib : Int) (L : List (ByteArray × Nat)) (q cap gm : Nat) (s : ByteArray) (k u : Nat) (hM : Mp w g src dead ia ib L (.slice (some ⟨q, 0, none⟩) L.length cap) (some gm)) (hk : pos L s = some k) (hu : L[k]? = some (s, u)) (hU : decide (u < 1073741824) = true) :
    Calls Tryd.prog 14 #[.pointer (some ⟨g, 0, none⟩), .string s] w (SmP w g src dead ia ib (.slice (some ⟨q, 0, none⟩) L.length cap) (some gm) k (stepL dead L k)) := by
  have HM := Lib.hid hM
  have HU := Lib.hid hu
  have hkL : k < L.length := by
    rcases Nat.lt_or_ge k L.length with h | h
    · exact h
    · rw [List.getElem?_eq_none h] at hu; cases hu
  have HX := Lib.hid hU
  have l1 := (hM.alloc (.cells #[.int .u32 0, .int .u32 0] 31)).look s
  rw [hk] at l1
  simp only [Option.map_some, Option.getD_some, Option.isSome_some] at l1
  have c1 := hM.pm.c114
  have c2 := hM.pm.c350
  have c3 := hM.pm.c106
  have hg := hM.pm.lt
  have hq : q < w.heap.size := (hM.row.lt q rfl).2
  have c4 : w.cell? ⟨q, k * 10 + 4, none⟩ = some (.int .u32 u) := by
    rw [hM.row.cellAt (k * 10 + 4) (by omega), flat_get ia ib L k 4 s u hu (by omega)]; rfl
  have f4 : w.frozen? ⟨q, k * 10 + 4, none⟩ = false := by
    rcases hM.row.2 with ⟨h2, _⟩ | ⟨q', cap', cur, e1, hb, hh, _⟩
    · cases h2
    · simp only [Value.slice.injEq, Option.some.injEq, Addr.mk.injEq, true_and, and_true] at e1
      obtain ⟨rfl, rfl⟩ := e1
      exact frozen_of_row w q _ _ _ hh
  have wr : IntKind.u32.wrap ((u : Int) + 1) = (u : Int) + 1 := by
    have := of_decide_eq_true HX.out
    exact IntWalk.u32_in _ (by omega)
  clear hM hk hu hU
  have em := eqmap (w.alloc (.cells #[.int .u32 0, .int .u32 0] 31)) gm
  cases dead
  · go_enter Tryd.func14, Tryd.ntmps14
    go_wp2
    go_region
    all_goals
      go_wp2
      refine bodyPost_ret (v := .agg #[.int .u32 src, .int .u32 k]) (by simp [results, Tryd.results14, go_sem]) rfl ⟨rfl, _, _, (((HM.out.bump HU.out rfl).alloc _).alloc _).drew, (Keep.setOwn _ _ _ _ _ _ _ _ _).trans (Keep.of_touch (F := fun _ => False) (((Touch.refl _ _).alloc _).alloc _).drew (fun _ _ h => h.elim))⟩
  · go_enter Tryd.func14, Tryd.ntmps14
    go_wp2
    refine bodyPost_ret (v := .agg #[.int .u32 src, .int .u32 k]) (by simp [results, Tryd.results14, go_sem]) rfl ⟨rfl, _, _, (HM.out.alloc _).alloc _, Keep.of_touch (F := fun _ => False) (((Touch.refl _ _).alloc _).alloc _) (fun _ _ h => h.elim)⟩

theorem new14_pre (w : World) (g : Nat) (src : Int) (dead : Bool) (ia ib : Int) (L : List (ByteArray × Nat)) (sv : Value) (gm : Nat) (hM : Mp w g src dead ia ib L sv (some gm)) :
    Mp ((w.alloc (.cells #[.int .u32 0, .int .u32 0] 31)).alloc (.cells #[.int .u32 0, .int .u32 0] 31)) g src dead ia ib L sv (some gm) ∧ Keep w ((w.alloc (.cells #[.int .u32 0, .int .u32 0] 31)).alloc (.cells #[.int .u32 0, .int .u32 0] 31)) g sv (some gm) sv (some gm) ∧
    ((w.alloc (.cells #[.int .u32 0, .int .u32 0] 31)).alloc (.cells #[.int .u32 0, .int .u32 0] 31)).heap[w.heap.size]? = some (.cells #[.int .u32 0, .int .u32 0] 31 (0, 0)) ∧ ((w.alloc (.cells #[.int .u32 0, .int .u32 0] 31)).alloc (.cells #[.int .u32 0, .int .u32 0] 31)).heap[w.heap.size + 1]? = some (.cells #[.int .u32 0, .int .u32 0] 31 (0, 0)) ∧ ((w.alloc (.cells #[.int .u32 0, .int .u32 0] 31)).alloc (.cells #[.int .u32 0, .int .u32 0] 31)).heap.size = w.heap.size + 1 + 1 ∧ Mp (w.alloc (.cells #[.int .u32 0, .int .u32 0] 31)) g src dead ia ib L sv (some gm) := by
  refine ⟨(hM.alloc _).alloc _, Keep.of_touch (F := fun _ => False) (((Touch.refl _ _).alloc _).alloc _) (fun _ _ h => h.elim), (Below.heap_alloc _ _ _ (by simp)).trans (heap_alloc_new w _), ?_, by simp, hM.alloc _⟩
  have := heap_alloc_new (w.alloc (.cells #[.int .u32 0, .int .u32 0] 31)) (.cells #[.int .u32 0, .int .u32 0] 31)
  simpa using this

set_option maxRecDepth 100000 in
set_option maxHeartbeats 4000000 in
theorem new14 (w : World) (g : Nat) (src : Int) (dead : Bool) (ia ib : Int) (L : List (ByteArray × Nat)) (a : Option Addr) (c : Nat) (gm : Nat) (s : ByteArray) (hM : Mp w g src dead ia ib L (.slice a L.length c) (some gm)) (hk : pos L s = none) (hn : L.length ≤ 1048576) :
    Calls Tryd.prog 14 #[.pointer (some ⟨g, 0, none⟩), .string s] w (SmP w g src dead ia ib (.slice a L.length c) (some gm) L.length (stepL dead (L ++ [(s, 0)]) L.length)) := by
  obtain ⟨hM1, hK1, bR, bX, hS, hM0⟩ := new14_pre w g src dead ia ib L (.slice a L.length c) gm hM
  have HM1 := Lib.hid hM1
  have HK1 := Lib.hid hK1
  have BR := Lib.hid bR
  have BX := Lib.hid bX
  have HS := Lib.hid hS
  have HK := Lib.hid hk
  have HF : Hid (∀ R, w.heap.size ≤ R → R ≠ g ∧ R ≠ 0 ∧ (Value.slice a L.length c).ownBlock ≠ some R) := Lib.hid (fun R hR => ⟨(hM.farNew hR).2.1, (hM.farNew hR).1, (hM.farNew hR).2.2.1⟩)
  have l1 := hM0.look s
  rw [hk] at l1
  simp only [Option.map_none, Option.getD_none, Option.isSome_none] at l1
  have c1 := hM.pm.c114
  have f1 := hM.pm.f114
  have hg := hM.pm.lt
  have em := eqmap (w.alloc (.cells #[.int .u32 0, .int .u32 0] 31)) gm
  clear hM hk hM1 hK1 bR bX hS hM0
  have hmm := @run_makeMap Tryd.prog
  go_enter Tryd.func14, Tryd.ntmps14
  go_wp2_with fail

  generalize ((w.alloc (.cells #[.int .u32 0, .int .u32 0] 31)).alloc (.cells #[.int .u32 0, .int .u32 0] 31)) = w1 at *
  refine (new15 w1 0 g L.length src dead a c (some gm) s ia ib (flat ia ib L) HM1.out.pm HM1.out.inv HM1.out.row HM1.out.ne (Nat.zero_le _) hn).mono ?_
  rintro e w2 ⟨rfl, k, cap, hP2, hO2, hk, hkg, hT2⟩
  obtain ⟨⟨x0, x1, y0, y1⟩, w4, hup, hM4, hK4, ⟨t0, t1⟩, ⟨r0, r1, p0, p1⟩, hR0, hRF, hkX, hkR, hkg2⟩ := new_pack (X := w.heap.size + 1) (R := w.heap.size) HM1.out HK1.out HK.out hP2 hO2 hk hkg hT2 BX.out (HM1.out.farOf BX.out (HF.out _ (by omega))) (by omega) BR.out (HM1.out.farOf BR.out (HF.out _ (by omega))) (Nat.le_refl _) (by omega)
  have HM4 := Lib.hid hM4
  have HK4 := Lib.hid hK4
  have HRF := Lib.hid hRF
  have hRg : w.heap.size ≠ g := by omega
  have d1 := hM4.pm.c350
  have d2 := hM4.pm.c106
  have hget : (L ++ [(s, 0)])[L.length]? = some (s, 0) := by simp
  have HG := Lib.hid hget
  have c4 : w4.cell? ⟨k, L.length * 10 + 4, none⟩ = some (.int .u32 0) := by
    have hlen : (L ++ [(s, 0)]).length = L.length + 1 := by simp
    rw [hM4.row.cellAt (L.length * 10 + 4) (by omega), flat_get ia ib _ L.length 4 s 0 hget (by omega)]; rfl
  have f4 : w4.frozen? ⟨k, L.length * 10 + 4, none⟩ = false := by
    rcases hM4.row.2 with ⟨h2, _⟩ | ⟨q', cap', cur, e1, hb, hh, _⟩
    · cases h2
    · simp only [Value.slice.injEq, Option.some.injEq, Addr.mk.injEq, true_and, and_true] at e1
      obtain ⟨rfl, rfl⟩ := e1
      exact frozen_of_row w4 k _ _ _ hh
  have hlen : (L ++ [(s, 0)]).length = L.length + 1 := List.length_append
  rw [hlen] at d2
  clear hlen
  clear hP2 hO2 hk hkg hT2 hM4 hK4 hRF hget
  go_simp
  cases dead
  · go_wp2
    go_region
    all_goals
      go_wp2
      refine bodyPost_ret (v := .agg #[.int .u32 src, .int .u32 L.length]) (by simp [results, Tryd.results14, go_sem, r0, r1]) rfl ⟨rfl, _, _, (((HM4.out.bump HG.out (v := 1) rfl).setFar hR0 HRF.out 0 _).setFar hR0 HRF.out 1 _).drew, (((HK4.out.trans (Keep.setOwn _ _ _ _ _ _ _ _ _)).setNew (Nat.le_refl _) 0 _).setNew (Nat.le_refl _) 1 _).drew⟩
  · go_wp2
    refine bodyPost_ret (v := .agg #[.int .u32 src, .int .u32 L.length]) (by simp [results, Tryd.results14, go_sem, r0, r1]) rfl ⟨rfl, _, _, (HM4.out.setFar hR0 HRF.out 0 _).setFar hR0 HRF.out 1 _, (HK4.out.setNew (Nat.le_refl _) 0 _).setNew (Nat.le_refl _) 1 _⟩

theorem first14_pre (w : World) (g : Nat) (src : Int) (dead : Bool) (ia ib : Int) (L : List (ByteArray × Nat)) (sv : Value) (hM : Mp w g src dead ia ib L sv none) :
    Mp (((((w.setCell ⟨g, 114, none⟩ (.map (some (w.heap.size + 1)))).alloc (.cells #[.int .u32 0, .int .u32 0] 31)).alloc (.map #[] 0))).alloc (.cells #[.int .u32 0, .int .u32 0] 31)) g src dead ia ib L sv (some (w.heap.size + 1)) ∧ Keep w (((((w.setCell ⟨g, 114, none⟩ (.map (some (w.heap.size + 1)))).alloc (.cells #[.int .u32 0, .int .u32 0] 31)).alloc (.map #[] 0))).alloc (.cells #[.int .u32 0, .int .u32 0] 31)) g sv none sv (some (w.heap.size + 1)) ∧
    (((((w.setCell ⟨g, 114, none⟩ (.map (some (w.heap.size + 1)))).alloc (.cells #[.int .u32 0, .int .u32 0] 31)).alloc (.map #[] 0))).alloc (.cells #[.int .u32 0, .int .u32 0] 31)).heap[w.heap.size]? = some (.cells #[.int .u32 0, .int .u32 0] 31 (0, 0)) ∧ (((((w.setCell ⟨g, 114, none⟩ (.map (some (w.heap.size + 1)))).alloc (.cells #[.int .u32 0, .int .u32 0] 31)).alloc (.map #[] 0))).alloc (.cells #[.int .u32 0, .int .u32 0] 31)).heap[w.heap.size + 2]? = some (.cells #[.int .u32 0, .int .u32 0] 31 (0, 0)) ∧ (((((w.setCell ⟨g, 114, none⟩ (.map (some (w.heap.size + 1)))).alloc (.cells #[.int .u32 0, .int .u32 0] 31)).alloc (.map #[] 0))).alloc (.cells #[.int .u32 0, .int .u32 0] 31)).heap.size = w.heap.size + 2 + 1 ∧ Mp ((((w.setCell ⟨g, 114, none⟩ (.map (some (w.heap.size + 1)))).alloc (.cells #[.int .u32 0, .int .u32 0] 31)).alloc (.map #[] 0))) g src dead ia ib L sv (some (w.heap.size + 1)) := by
  have hg := hM.pm.lt
  have fn := hM.farNew (R := w.heap.size + 1) (by omega)
  have hL : L = [] := by
    rcases hM.map with h | ⟨gm, h, _⟩
    · exact h.2
    · cases h
  have e1 : ((((w.setCell ⟨g, 114, none⟩ (.map (some (w.heap.size + 1)))).alloc (.cells #[.int .u32 0, .int .u32 0] 31)).alloc (.map #[] 0))).heap.size = w.heap.size + 2 := by simp [World.setCell]
  have sz : (w.setCell ⟨g, 114, none⟩ (.map (some (w.heap.size + 1)))).heap.size = w.heap.size := by simp [World.setCell]
  have b1 : ∀ b, b < w.heap.size → b ≠ g → ((((w.setCell ⟨g, 114, none⟩ (.map (some (w.heap.size + 1)))).alloc (.cells #[.int .u32 0, .int .u32 0] 31)).alloc (.map #[] 0))).heap[b]? = w.heap[b]? := fun b h1 h2 => ((Below.heap_alloc _ _ _ (by simp [sz]; omega)).trans (Below.heap_alloc _ _ _ (by rw [sz]; exact h1))).trans (Below.heap_setCell _ _ _ _ h2)
  have bm : ((((w.setCell ⟨g, 114, none⟩ (.map (some (w.heap.size + 1)))).alloc (.cells #[.int .u32 0, .int .u32 0] 31)).alloc (.map #[] 0))).heap[w.heap.size + 1]? = some (.map #[] 0) := by
    have := heap_alloc_new ((w.setCell ⟨g, 114, none⟩ (.map (some (w.heap.size + 1)))).alloc (.cells #[.int .u32 0, .int .u32 0] 31)) (.map #[] 0)
    simpa [sz] using this
  have br : ((((w.setCell ⟨g, 114, none⟩ (.map (some (w.heap.size + 1)))).alloc (.cells #[.int .u32 0, .int .u32 0] 31)).alloc (.map #[] 0))).heap[w.heap.size]? = some (.cells #[.int .u32 0, .int .u32 0] 31 (0, 0)) := by
    rw [Below.heap_alloc _ _ _ (by simp [sz])]
    have := heap_alloc_new (w.setCell ⟨g, 114, none⟩ (.map (some (w.heap.size + 1)))) (.cells #[.int .u32 0, .int .u32 0] 31)
    rw [sz] at this; exact this
  have M0 : Mp ((((w.setCell ⟨g, 114, none⟩ (.map (some (w.heap.size + 1)))).alloc (.cells #[.int .u32 0, .int .u32 0] 31)).alloc (.map #[] 0))) g src dead ia ib L sv (some (w.heap.size + 1)) := by
    have e0 : ((((w.setCell ⟨g, 114, none⟩ (.map (some (w.heap.size + 1)))).alloc (.cells #[.int .u32 0, .int .u32 0] 31)).alloc (.map #[] 0))).heap[0]? = w.heap[0]? := b1 0 hM.inv.lt (fun e => hM.z.1 e)
    have eg : ((((w.setCell ⟨g, 114, none⟩ (.map (some (w.heap.size + 1)))).alloc (.cells #[.int .u32 0, .int .u32 0] 31)).alloc (.map #[] 0))).heap[g]? = (w.setCell ⟨g, 114, none⟩ (.map (some (w.heap.size + 1)))).heap[g]? := (Below.heap_alloc _ _ _ (by simp [sz]; omega)).trans (Below.heap_alloc _ _ _ (by rw [sz]; exact hg))
    refine ⟨(hM.pm.set114 _).of_block eg, ⟨(World.cell?_of_block (a := ⟨0, 0, none⟩) e0).trans hM.inv.1, (World.cell?_of_block (a := ⟨0, 1, none⟩) e0).trans hM.inv.2⟩, ((ownsRow_setCell_other hM.row (a := ⟨g, 114, none⟩) hM.ne _).alloc _).alloc _, .inr ⟨_, rfl, ?_⟩, hM.ne, fun e => by simp at e; omega, fun b e => by cases e; exact fn.2.2.1, ⟨hM.z.1, hM.z.2.1, fun e => by simp at e⟩⟩
    subst hL
    refine ⟨#[], 0, bm, rfl, by simp, by simp, fun k v => ?_⟩
    cases k <;> simp [lookL, pos]
  refine ⟨M0.alloc _, ⟨rfl, rfl, rfl, by simp [World.setCell]; omega, fun b hb hf => ⟨⟨hf.1, hf.2.1, fun e => by simp at e; omega⟩, (Below.heap_alloc _ _ _ (by rw [e1]; omega)).trans (b1 b hb hf.1)⟩⟩, (Below.heap_alloc _ _ _ (by rw [e1]; omega)).trans br, ?_, by simp [World.setCell], M0⟩
  have := heap_alloc_new ((((w.setCell ⟨g, 114, none⟩ (.map (some (w.heap.size + 1)))).alloc (.cells #[.int .u32 0, .int .u32 0] 31)).alloc (.map #[] 0))) (.cells #[.int .u32 0, .int .u32 0] 31)
  rw [e1] at this; exact this

set_option maxRecDepth 100000 in
set_option maxHeartbeats 4000000 in
theorem first14 (w : World) (g : Nat) (src : Int) (dead : Bool) (ia ib : Int) (L : List (ByteArray × Nat)) (a : Option Addr) (c : Nat) (s : ByteArray) (hM : Mp w g src dead ia ib L (.slice a L.length c) none) (hk : pos L s = none) (hn : L.length ≤ 1048576) :
    Calls Tryd.prog 14 #[.pointer (some ⟨g, 0, none⟩), .string s] w (SmP w g src dead ia ib (.slice a L.length c) none L.length (stepL dead (L ++ [(s, 0)]) L.length)) := by
  obtain ⟨hM1, hK1, bR, bX, hS, hM0⟩ := first14_pre w g src dead ia ib L (.slice a L.length c) hM
  have HM1 := Lib.hid hM1
  have HK1 := Lib.hid hK1
  have BR := Lib.hid bR
  have BX := Lib.hid bX
  have HS := Lib.hid hS
  have HK := Lib.hid hk
  have HF : Hid (∀ R, w.heap.size ≤ R → R ≠ g ∧ R ≠ 0 ∧ (Value.slice a L.length c).ownBlock ≠ some R) := Lib.hid (fun R hR => ⟨(hM.farNew hR).2.1, (hM.farNew hR).1, (hM.farNew hR).2.2.1⟩)
  have l1 := hM0.look s
  rw [hk] at l1
  simp only [Option.map_none, Option.getD_none, Option.isSome_none] at l1
  have c1 := hM.pm.c114
  have f1 := hM.pm.f114
  have hg := hM.pm.lt
  have em := eqnil (w.alloc (.cells #[.int .u32 0, .int .u32 0] 31))
  clear hM hk hM1 hK1 bR bX hS hM0
  have hmm := @run_makeMap Tryd.prog
  go_enter Tryd.func14, Tryd.ntmps14
  go_wp2_with fail

  generalize (((((w.setCell ⟨g, 114, none⟩ (.map (some (w.heap.size + 1)))).alloc (.cells #[.int .u32 0, .int .u32 0] 31)).alloc (.map #[] 0))).alloc (.cells #[.int .u32 0, .int .u32 0] 31)) = w1 at *
  refine (new15 w1 0 g L.length src dead a c (some (w.heap.size + 1)) s ia ib (flat ia ib L) HM1.out.pm HM1.out.inv HM1.out.row HM1.out.ne (Nat.zero_le _) hn).mono ?_
  rintro e w2 ⟨rfl, k, cap, hP2, hO2, hk, hkg, hT2⟩
  obtain ⟨⟨x0, x1, y0, y1⟩, w4, hup, hM4, hK4, ⟨t0, t1⟩, ⟨r0, r1, p0, p1⟩, hR0, hRF, hkX, hkR, hkg2⟩ := new_pack (X := w.heap.size + 2) (R := w.heap.size) HM1.out HK1.out HK.out hP2 hO2 hk hkg hT2 BX.out (HM1.out.farOf BX.out (HF.out _ (by omega))) (by omega) BR.out (HM1.out.farOf BR.out (HF.out _ (by omega))) (Nat.le_refl _) (by omega)
  have HM4 := Lib.hid hM4
  have HK4 := Lib.hid hK4
  have HRF := Lib.hid hRF
  have hRg : w.heap.size ≠ g := by omega
  have d1 := hM4.pm.c350
  have d2 := hM4.pm.c106
  have hget : (L ++ [(s, 0)])[L.length]? = some (s, 0) := by simp
  have HG := Lib.hid hget
  have c4 : w4.cell? ⟨k, L.length * 10 + 4, none⟩ = some (.int .u32 0) := by
    have hlen : (L ++ [(s, 0)]).length = L.length + 1 := by simp
    rw [hM4.row.cellAt (L.length * 10 + 4) (by omega), flat_get ia ib _ L.length 4 s 0 hget (by omega)]; rfl
  have f4 : w4.frozen? ⟨k, L.length * 10 + 4, none⟩ = false := by
    rcases hM4.row.2 with ⟨h2, _⟩ | ⟨q', cap', cur, e1, hb, hh, _⟩
    · cases h2
    · simp only [Value.slice.injEq, Option.some.injEq, Addr.mk.injEq, true_and, and_true] at e1
      obtain ⟨rfl, rfl⟩ := e1
      exact frozen_of_row w4 k _ _ _ hh
  have hlen : (L ++ [(s, 0)]).length = L.length + 1 := List.length_append
  rw [hlen] at d2
  clear hlen
  clear hP2 hO2 hk hkg hT2 hM4 hK4 hRF hget
  go_simp
  cases dead
  · go_wp2
    go_region
    all_goals
      go_wp2
      refine bodyPost_ret (v := .agg #[.int .u32 src, .int .u32 L.length]) (by simp [results, Tryd.results14, go_sem, r0, r1]) rfl ⟨rfl, _, _, (((HM4.out.bump HG.out (v := 1) rfl).setFar hR0 HRF.out 0 _).setFar hR0 HRF.out 1 _).drew, (((HK4.out.trans (Keep.setOwn _ _ _ _ _ _ _ _ _)).setNew (Nat.le_refl _) 0 _).setNew (Nat.le_refl _) 1 _).drew⟩
  · go_wp2
    refine bodyPost_ret (v := .agg #[.int .u32 src, .int .u32 L.length]) (by simp [results, Tryd.results14, go_sem, r0, r1]) rfl ⟨rfl, _, _, (HM4.out.setFar hR0 HRF.out 0 _).setFar hR0 HRF.out 1 _, (HK4.out.setNew (Nat.le_refl _) 0 _).setNew (Nat.le_refl _) 1 _⟩

theorem row_form {w : World} {D E z n : Nat} {v : Value} {xs : List Value} (h : w.ownsRow D E z v n xs) : ∃ a cap, v = .slice a n cap ∧ (0 < n → ∃ k, a = some ⟨k, 0, none⟩) := by
  rcases h.2 with ⟨e, h0⟩ | ⟨q, cap, cur, e, _⟩
  · exact ⟨none, 0, by rw [e, h0], fun h => by omega⟩
  · exact ⟨some ⟨q, 0, none⟩, cap, e, fun _ => ⟨q, rfl⟩⟩
def idx (L : List (ByteArray × Nat)) (s : ByteArray) : Nat := (pos L s).getD L.length
def add (L : List (ByteArray × Nat)) (s : ByteArray) : List (ByteArray × Nat) := match pos L s with | some _ => L | none => L ++ [(s, 0)]
def next (dead : Bool) (L : List (ByteArray × Nat)) (s : ByteArray) : List (ByteArray × Nat) := stepL dead (add L s) (idx L s)
theorem sym14 (w : World) (g : Nat) (src : Int) (dead : Bool) (ia ib : Int) (L : List (ByteArray × Nat)) (sv : Value) (m : Option Nat) (s : ByteArray) (hM : Mp w g src dead ia ib L sv m) (hn : L.length ≤ 1048576) (hU : ∀ x ∈ L, x.2 < 1073741824) :
    Calls Tryd.prog 14 #[.pointer (some ⟨g, 0, none⟩), .string s] w (SmP w g src dead ia ib sv m (idx L s) (next dead L s)) := by
  obtain ⟨a, cap, rfl, ha⟩ := row_form hM.row
  unfold next idx add
  rcases hp : pos L s with _ | k
  · simp only [Option.getD_none]
    rcases m with _ | gm
    · exact first14 w g src dead ia ib L a cap s hM hp hn
    · exact new14 w g src dead ia ib L a cap gm s hM hp hn
  · simp only [Option.getD_some]
    obtain ⟨u, hu⟩ := pos_some hp
    have hlt : 0 < L.length := by
      rcases L with _ | ⟨x, L⟩
      · simp at hu
      · simp
    obtain ⟨q, rfl⟩ := ha hlt
    rcases m with _ | gm
    · rcases hM.map with ⟨_, h⟩ | ⟨gm, h, _⟩
      · subst h; simp at hlt
      · cases h
    · exact found14 w g src dead ia ib L q cap gm s k u hM hp hu (decide_eq_true (hU (s, u) (List.mem_of_getElem? hu)))
set_option maxRecDepth 100000 in
set_option maxHeartbeats 4000000 in
theorem sym9 (w : World) (g : Nat) (src : Int) (dead : Bool) (ia ib : Int) (L : List (ByteArray × Nat)) (sv : Value) (m : Option Nat) (s : ByteArray) (hM : Mp w g src dead ia ib L sv m) (hn : L.length ≤ 1048576) (hU : ∀ x ∈ L, x.2 < 1073741824) :
    Calls Tryd.prog 9 #[.pointer (some ⟨g, 0, none⟩), .string s] w (SmP w g src dead ia ib sv m (idx L s) (next dead L s)) := by
  have HM := Lib.hid hM
  have HU := Lib.hid hU
  have hfar := (hM.farNew (Nat.le_refl w.heap.size))
  have HF := Lib.hid hfar
  clear hM hU hfar
  go_enter Tryd.func9, Tryd.ntmps9
  go_wp2_with fail
  refine (sym14 _ g src dead ia ib L sv m s (HM.out.alloc _) hn HU.out).mono ?_
  rintro e w' ⟨rfl, sv', m', hM', hK'⟩
  obtain ⟨hf, hb⟩ := hK'.far w.heap.size (by simp) HF.out.2
  rw [heap_alloc_new] at hb
  have r0 := cell_of_row w' _ 0 _ _ _ hb
  have r1 := cell_of_row w' _ 1 _ _ _ hb
  have p0 := frozen_of_row w' _ 0 _ _ hb
  have p1 := frozen_of_row w' _ 1 _ _ hb
  simp only [List.getElem?_toArray, List.getElem?_cons_zero, List.getElem?_cons_succ] at r0 r1
  have HM' := Lib.hid hM'
  have HK' := Lib.hid hK'
  have HFR := Lib.hid hf
  clear hM' hK' hf hb
  go_simp
  go_wp2_with fail
  refine bodyPost_ret (v := .agg #[.int .u32 src, .int .u32 (idx L s)]) (by simp [results, Tryd.results9, go_sem, r0, r1]) rfl ⟨rfl, sv', m', (HM'.out.setFar HF.out.1 HFR.out 0 _).setFar HF.out.1 HFR.out 1 _, ?_⟩
  exact (((Keep.of_touch (F := fun _ => False) ((Touch.refl _ _).alloc _) (fun _ _ h => h.elim)).trans HK'.out).setNew (Nat.le_refl _) 0 _).setNew (Nat.le_refl _) 1 _
set_option maxRecDepth 100000 in
set_option maxHeartbeats 4000000 in
theorem count10 (w : World) (g : Nat) (src : Int) (dead : Bool) (ia ib : Int) (L : List (ByteArray × Nat)) (sv : Value) (m : Option Nat) (hM : Mp w g src dead ia ib L sv m) :
    Calls Tryd.prog 10 #[.pointer (some ⟨g, 0, none⟩)] w (fun e w' => e = .returned (.int .i64 L.length) ∧ w' = w) := by
  obtain ⟨a, cap, rfl, ha⟩ := row_form hM.row
  have c1 := hM.pm.c106
  clear hM
  go_enter Tryd.func10, Tryd.ntmps10
  go_wp2
  exact bodyPost_ret (v := .int .i64 L.length) (by simp [results, Tryd.results10, go_sem]) rfl ⟨rfl, rfl⟩
set_option maxRecDepth 100000 in
set_option maxHeartbeats 4000000 in
theorem alloc13 (w : World) (g : Nat) (src : Int) (dead : Bool) (ia ib : Int) (L : List (ByteArray × Nat)) (sv : Value) (m : Option Nat) (hM : Mp w g src dead ia ib L sv m) :
    Calls Tryd.prog 13 #[.pointer (some ⟨g, 0, none⟩)] w (fun e w' => e = .returned (.int .i64 0) ∧ w' = w) := by
  have c1 := hM.pm.c103
  clear hM
  go_enter Tryd.func13, Tryd.ntmps13
  go_wp2
  exact bodyPost_ret (v := .int .i64 0) (by simp [results, Tryd.results13, go_sem]) rfl ⟨rfl, rfl⟩
set_option maxRecDepth 100000 in
set_option maxHeartbeats 4000000 in
theorem read11 (w : World) (g : Nat) (src : Int) (dead : Bool) (ia ib : Int) (L : List (ByteArray × Nat)) (sv : Value) (m : Option Nat) (hM : Mp w g src dead ia ib L sv m) (k u : Nat) (s : ByteArray) (hk : L[k]? = some (s, u)) :
    Calls Tryd.prog 11 #[.pointer (some ⟨g, 0, none⟩), .int .i64 k] w (fun e w' => e = .returned (.tuple #[.int .u8 24, .string s, .int .u32 u]) ∧ Below w.heap.size w w') := by
  have hlt : k < L.length := by
    rcases Nat.lt_or_ge k L.length with h | h
    · exact h
    · rw [List.getElem?_eq_none h] at hk; cases hk
  obtain ⟨a, cap, rfl, ha⟩ := row_form hM.row
  obtain ⟨q, rfl⟩ := ha (by omega)
  have c1 := hM.pm.c106
  have cc : ∀ j, j < 10 → w.cell? ⟨q, k * 10 + j, none⟩ = (symC s u ia ib)[j]? := fun j hj => by
    rw [hM.row.cellAt (k * 10 + j) (by omega), flat_get ia ib L k j s u hk hj]
  have k0 : w.cell? ⟨q, k * 10, none⟩ = some (.pointer none) := cc 0 (by omega)
  have k1 : w.cell? ⟨q, k * 10 + 1, none⟩ = some (.string s) := cc 1 (by omega)
  have k2 : w.cell? ⟨q, k * 10 + 2, none⟩ = some (.int .u32 ia) := cc 2 (by omega)
  have k3 : w.cell? ⟨q, k * 10 + 3, none⟩ = some (.int .u32 ib) := cc 3 (by omega)
  have k4 : w.cell? ⟨q, k * 10 + 4, none⟩ = some (.int .u32 u) := cc 4 (by omega)
  have k5 : w.cell? ⟨q, k * 10 + 5, none⟩ = some (.int .u32 0) := cc 5 (by omega)
  have k6 : w.cell? ⟨q, k * 10 + 6, none⟩ = some (.int .u32 0) := cc 6 (by omega)
  have k7 : w.cell? ⟨q, k * 10 + 7, none⟩ = some (.int .u16 0) := cc 7 (by omega)
  have k8 : w.cell? ⟨q, k * 10 + 8, none⟩ = some (.int .u8 24) := cc 8 (by omega)
  have k9 : w.cell? ⟨q, k * 10 + 9, none⟩ = some (.int .u8 0) := cc 9 (by omega)
  clear cc hM hk ha
  go_enter Tryd.func11, Tryd.ntmps11
  go_wp2
  go_quiet (fail)
  go_wp2
  exact bodyPost_ret (v := .tuple #[.int .u8 24, .string s, .int .u32 u]) (by simp [results, Tryd.results11, go_sem]) rfl ⟨rfl, below_drewN ((Below.refl _ _).alloc (Nat.le_refl _) _) _⟩
end Go.Proofs.YtcalijmopeebgaaDoor.mp
