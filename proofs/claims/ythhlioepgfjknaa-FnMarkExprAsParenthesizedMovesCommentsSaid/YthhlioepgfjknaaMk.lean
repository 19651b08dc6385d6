/-
  Maps of whatever keys and values: look-up, store, delete, len.
-/
import Derived.Test.YthhlioepgfjknaaRows
import Derived.WalkKit
import Derived.ProofKit
import Derived.MapKept
import Derived.Below
import Derived.Carry
import Derived.OneCell
namespace Go.Proofs.Ythhlioepgfjknaa.mk
open Go.RowKit
set_option linter.unusedVariables false

/-- Block b is set to o. -/
def setB (w : World) (b : Nat) (o : Obj) : World := { w with heap := w.heap.setIfInBounds b o }
theorem setB_same {w : World} {b : Nat} {o' : Obj} (h : w.heap[b]? = some o') (o : Obj) : (setB w b o).heap[b]? = some o := Array.getElem?_setIfInBounds_self_of_lt (lt_of_block h)
theorem setB_other (w : World) (b : Nat) (o : Obj) {k : Nat} (h : k ≠ b) : (setB w b o).heap[k]? = w.heap[k]? := Array.getElem?_setIfInBounds_ne (fun e => h e.symm)

/-- What is asked of the keys K of type kt in world w. -/
structure KeyOk (P : Program) (kt : TypeId) (K : Value → Prop) (w : World) : Prop where
  check : ∀ em k, K k → (Instr.checkKey em 10000 kt k).run P w = .ok () w
  equal : ∀ k k', K k → K k' → ∃ b, (Op.equal kt k k').run P w = .ok b w ∧ (b = true ↔ k = k')
  now : ∃ d, P.underlying kt = some d ∧ ∀ k k', K k → K k' → Instr.sameNow d k k' = none ∨ ∃ b, Instr.sameNow d k k' = some b ∧ (b = true ↔ k = k')
  stays : ∀ k, K k → Instr.sameBits 10000 k k = true
section
variable {P : Program} {kt : TypeId} {K : Value → Prop} {w : World}
theorem find_asking (h : KeyOk P kt K w) {k : Value} (hk : K k) : ∀ (es : List MapEntry) (i : Nat), (∀ e ∈ es, K e.key) →
    ((Instr.findAsking kt k es i).run P w = .ok none w ∧ ∀ e ∈ es, e.key ≠ k) ∨ ∃ j e, (Instr.findAsking kt k es i).run P w = .ok (some (i + j, e.val)) w ∧ es[j]? = some e ∧ e.key = k := by
  intro es
  induction es with
  | nil => intro i _; exact .inl ⟨by simp [Instr.findAsking, Sem.run_pure], by simp⟩
  | cons e es ih =>
    intro i hes
    obtain ⟨b, hb, hbe⟩ := h.equal k e.key hk (hes e (by simp))
    cases b with
    | true =>
      refine .inr ⟨0, e, ?_, by simp, (hbe.1 rfl).symm⟩
      simp [Instr.findAsking, hb, Result.andThen]
    | false =>
      have hne : e.key ≠ k := fun e' => by have := hbe.2 e'.symm; cases this
      rcases ih (i + 1) (fun e he => hes e (by simp [he])) with ⟨h1, h2⟩ | ⟨j, e', h1, h2, h3⟩
      · refine .inl ⟨by simp [Instr.findAsking, hb, Result.andThen, h1], ?_⟩
        intro x hx
        rcases List.mem_cons.1 hx with rfl | hx
        · exact hne
        · exact h2 x hx
      · refine .inr ⟨j + 1, e', ?_, by simpa using h2, h3⟩
        simp only [Instr.findAsking, Sem.run_bind, hb, Result.andThen]
        rw [show i + (j + 1) = i + 1 + j by omega]
        simpa using h1
theorem find_now {d : TypeDesc} (h : ∀ k k', K k → K k' → Instr.sameNow d k k' = none ∨ ∃ b, Instr.sameNow d k k' = some b ∧ (b = true ↔ k = k')) {k : Value} (hk : K k) : ∀ (es : List MapEntry) (i : Nat), (∀ e ∈ es, K e.key) →
    Instr.findNow d k es i = none ∨ (Instr.findNow d k es i = some none ∧ ∀ e ∈ es, e.key ≠ k) ∨ ∃ j e, Instr.findNow d k es i = some (some (i + j, e.val)) ∧ es[j]? = some e ∧ e.key = k := by
  intro es
  induction es with
  | nil => intro i _; exact .inr (.inl ⟨rfl, by simp⟩)
  | cons e es ih =>
    intro i hes
    rcases h k e.key hk (hes e (by simp)) with h0 | ⟨b, hb, hbe⟩
    · exact .inl (by simp [Instr.findNow, h0])
    cases b with
    | true => exact .inr (.inr ⟨0, e, by simp [Instr.findNow, hb], by simp, (hbe.1 rfl).symm⟩)
    | false =>
      have hne : e.key ≠ k := fun e' => by have := hbe.2 e'.symm; cases this
      rcases ih (i + 1) (fun e he => hes e (by simp [he])) with h1 | ⟨h1, h2⟩ | ⟨j, e', h1, h2, h3⟩
      · exact .inl (by simp [Instr.findNow, hb, h1])
      · refine .inr (.inl ⟨by simp [Instr.findNow, hb, h1], ?_⟩)
        intro x hx
        rcases List.mem_cons.1 hx with rfl | hx
        · exact hne
        · exact h2 x hx
      · refine .inr (.inr ⟨j + 1, e', ?_, by simpa using h2, h3⟩)
        simp only [Instr.findNow, hb, h1]
        congr 3; omega
theorem find_key (h : KeyOk P kt K w) {k : Value} (hk : K k) (es : List MapEntry) (hes : ∀ e ∈ es, K e.key) :
    ((Instr.findKey kt k es).run P w = .ok none w ∧ ∀ e ∈ es, e.key ≠ k) ∨ ∃ j e, (Instr.findKey kt k es).run P w = .ok (some (j, e.val)) w ∧ es[j]? = some e ∧ e.key = k := by
  obtain ⟨d, hd, hnow⟩ := h.now
  rcases find_now hnow hk es 0 hes with h1 | ⟨h1, h2⟩ | ⟨j, e, h1, h2, h3⟩
  · rcases find_asking h hk es 0 hes with ⟨h4, h5⟩ | ⟨j, e, h4, h5, h6⟩
    · exact .inl ⟨by simp [Instr.findKey, run_underlying hd, h1, h4], h5⟩
    · exact .inr ⟨j, e, by simpa [Instr.findKey, run_underlying hd, h1] using h4, h5, h6⟩
  · exact .inl ⟨by simp [Instr.findKey, run_underlying hd, h1], h2⟩
  · exact .inr ⟨j, e, by simp [Instr.findKey, run_underlying hd, h1], h2, h3⟩

/-- M, and v at k. -/
noncomputable def upd (M : Value → Option Value) (k v : Value) : Value → Option Value := fun q => open Classical in if q = k then some v else M q
noncomputable def del (M : Value → Option Value) (k : Value) : Value → Option Value := fun q => open Classical in if q = k then none else M q
theorem upd_same (M : Value → Option Value) (k v : Value) : upd M k v k = some v := by simp [upd]
theorem upd_other (M : Value → Option Value) {k q : Value} (v : Value) (h : q ≠ k) : upd M k v q = M q := by simp [upd, h]
theorem del_same (M : Value → Option Value) (k : Value) : del M k k = none := by simp [del]
theorem del_other (M : Value → Option Value) {k q : Value} (h : q ≠ k) : del M k q = M q := by simp [del, h]

/-- Block b is a map of n entries, all its keys in K; it reads as M. -/
def MapIs (w : World) (b : Nat) (K : Value → Prop) (n : Nat) (M : Value → Option Value) : Prop :=
  ∃ es clock, w.heap[b]? = some (.map es clock) ∧ es.size = n ∧ (∀ e ∈ es.toList, K e.key) ∧ (es.toList.map (·.key)).Nodup ∧ ∀ k v, M k = some v ↔ ∃ e ∈ es.toList, e.key = k ∧ e.val = v
/-- Nothing but block b has changed; no block has gone or come. -/
structure OnlyB (b : Nat) (w w' : World) : Prop where
  os : w'.os = w.os
  tape : w'.tape = w.tape
  output : w'.output = w.output
  size : w'.heap.size = w.heap.size
  block : ∀ k, k ≠ b → w'.heap[k]? = w.heap[k]?
theorem OnlyB.below {b B : Nat} {w w' : World} (h : OnlyB b w w') (hB : B ≤ b) : Below B w w' := ⟨h.os, h.tape, h.output, by rw [h.size]; exact Nat.le_refl _, fun k hk => h.block k (by omega)⟩
theorem OnlyB.cell {b : Nat} {w w' : World} (h : OnlyB b w w') {p : Addr} (hp : p.block ≠ b) : w'.cell? p = w.cell? p := World.cell?_of_block (w := w) (h.block p.block hp)
theorem OnlyB.frozen {b : Nat} {w w' : World} (h : OnlyB b w w') {p : Addr} (hp : p.block ≠ b) : w'.frozen? p = w.frozen? p := World.frozen?_of_block (w := w) (h.block p.block hp)

theorem MapIs.lt {b n : Nat} {M : Value → Option Value} (h : MapIs w b K n M) : b < w.heap.size := by
  obtain ⟨es, clock, h1, _⟩ := h; exact lt_of_block h1
theorem MapIs.of_block {w' : World} {b n : Nat} {M : Value → Option Value} (h : MapIs w b K n M) (e : w'.heap[b]? = w.heap[b]?) : MapIs w' b K n M := by
  obtain ⟨es, clock, h1, r⟩ := h; exact ⟨es, clock, e.trans h1, r⟩
theorem MapIs.alloc {b n : Nat} {M : Value → Option Value} (h : MapIs w b K n M) (o : Obj) : MapIs (w.alloc o) b K n M := h.of_block (Below.heap_alloc _ _ _ h.lt)
theorem MapIs.drew {b n : Nat} {M : Value → Option Value} (h : MapIs w b K n M) : MapIs w.drew b K n M := h
theorem MapIs.below {w' : World} {b n B : Nat} {M : Value → Option Value} (h : MapIs w b K n M) (hb : Below B w w') (hB : b < B) : MapIs w' b K n M := h.of_block (hb.block b hB)
theorem MapIs.setCell {b n : Nat} {M : Value → Option Value} (h : MapIs w b K n M) (a : Addr) (v : Value) (hne : b ≠ a.block) : MapIs (w.setCell a v) b K n M := h.of_block (Below.heap_setCell _ _ _ _ hne)
theorem MapIs.congr {b n : Nat} {M M' : Value → Option Value} (h : MapIs w b K n M) (e : ∀ k, M k = M' k) : MapIs w b K n M' := by
  obtain rfl : M = M' := funext e
  exact h
theorem MapIs.made (w : World) (K : Value → Prop) : MapIs (w.alloc (.map #[] 0)) w.heap.size K 0 (fun _ => none) :=
  ⟨#[], 0, (MapKept.heap_alloc w _).1, rfl, by simp, by simp, by simp⟩
theorem entry_of {es : List MapEntry} {M : Value → Option Value} (hM : ∀ k v, M k = some v ↔ ∃ e ∈ es, e.key = k ∧ e.val = v) {k : Value} (h : ∀ e ∈ es, e.key ≠ k) : M k = none := by
  cases e : M k with
  | none => rfl
  | some v => obtain ⟨x, hx, h1, _⟩ := (hM k v).1 e; exact absurd h1 (h x hx)
theorem MapIs.look {b n : Nat} {M : Value → Option Value} {T et : TypeId} {z k : Value} (h : MapIs w b K n M) (ok : KeyOk P kt K w) (ht : P.underlying T = some (.map kt et)) (hz : (zeroValue et).run P w = .ok z w) (hk : K k) (c : Bool) :
    (Instr.lookup T (.map (some b)) k c).run P w = .ok (if c then .tuple #[(M k).getD z, .bool (M k).isSome] else (M k).getD z) w := by
  obtain ⟨es, clock, h1, h2, h3, h4, h5⟩ := h
  rcases find_key ok hk es.toList h3 with ⟨g1, g2⟩ | ⟨j, e, g1, g2, g3⟩
  · have hM := entry_of h5 g2
    simp [Instr.lookup, run_underlying ht, MapKept.run_getObj_map h1, ok.check _ _ hk, g1, hz, hM]
  · have hM : M k = some e.val := (h5 k e.val).2 ⟨e, List.mem_of_getElem? g2, g3, rfl⟩
    simp [Instr.lookup, run_underlying ht, MapKept.run_getObj_map h1, ok.check _ _ hk, g1, hM]
theorem onlyB_set {b : Nat} {es : Array MapEntry} {clock : Nat} (h1 : w.heap[b]? = some (.map es clock)) (o : Obj) : OnlyB b w (setB w b o) :=
  ⟨rfl, rfl, rfl, by simp [setB], fun k hk => setB_other w b o hk⟩
theorem nodup_get {es : List MapEntry} (h : (es.map (·.key)).Nodup) {i j : Nat} {x y : MapEntry} (hi : es[i]? = some x) (hj : es[j]? = some y) (e : x.key = y.key) : i = j := by
  have hi' : (es.map (·.key))[i]? = some x.key := by simp [hi]
  have hj' : (es.map (·.key))[j]? = some x.key := by simp [hj, e]
  exact (List.getElem?_inj (by have := (List.getElem?_eq_some_iff.1 hi').1; exact this) h).1 (hi'.trans hj'.symm)
theorem MapIs.put {b n : Nat} {M : Value → Option Value} {T et : TypeId} {k : Value} (h : MapIs w b K n M) (ok : KeyOk P kt K w) (ht : P.underlying T = some (.map kt et)) (hk : K k) (v : Value) :
    ∃ w', (Instr.mapUpdate T (.map (some b)) k v).run P w = .ok () w' ∧ MapIs w' b K (if (M k).isSome then n else n + 1) (upd M k v) ∧ OnlyB b w w' := by
  obtain ⟨es, clock, h1, h2, h3, h4, h5⟩ := h
  rcases find_key ok hk es.toList h3 with ⟨g1, g2⟩ | ⟨j, e, g1, g2, g3⟩
  · have hM := entry_of h5 g2
    refine ⟨setB w b (.map (es.push { key := k, val := v, born := clock }) (clock + 1)), ?_, ⟨_, _, setB_same h1 _, ?_, ?_, ?_, ?_⟩, onlyB_set h1 _⟩
    · simp [Instr.mapUpdate, run_underlying ht, MapKept.run_getObj_map h1, ok.check _ _ hk, g1, MapKept.run_setObj_map _ h1]
      rfl
    · simp [hM, h2]
    · intro x hx
      simp at hx
      rcases hx with hx | rfl
      · exact h3 x (by simpa using hx)
      · exact hk
    · simp only [Array.toList_push, List.map_append, List.map_cons, List.map_nil]
      rw [List.nodup_append]
      refine ⟨h4, by simp, ?_⟩
      intro a ha c hc e
      simp at hc; subst hc; subst e
      obtain ⟨x, hx, e⟩ := List.mem_map.1 ha
      exact g2 x hx e
    · intro q u
      by_cases e : q = k
      · subst e
        rw [upd_same]
        constructor
        · intro e; cases e; exact ⟨{ key := q, val := v, born := clock }, by simp, rfl, rfl⟩
        · rintro ⟨x, hx, e1, rfl⟩
          simp at hx
          rcases hx with hx | rfl
          · exact absurd e1 (g2 x (by simpa using hx))
          · rfl
      · rw [upd_other _ _ e, h5]
        constructor
        · rintro ⟨x, hx, r⟩; exact ⟨x, by simp at hx ⊢; exact .inl hx, r⟩
        · rintro ⟨x, hx, e1, e2⟩
          simp at hx
          rcases hx with hx | rfl
          · exact ⟨x, by simpa using hx, e1, e2⟩
          · exact absurd e1.symm e
  · have hM : M k = some e.val := (h5 k e.val).2 ⟨e, List.mem_of_getElem? g2, g3, rfl⟩
    have hj : j < es.size := by have := (List.getElem?_eq_some_iff.1 g2).1; simpa using this
    have hes : es[j]? = some e := by simpa using g2
    have hst : (Instr.keyThatStays e.key k).run P w = .ok k w := by simp [Instr.keyThatStays, g3, ok.stays k hk]
    have hmod : es.modify j (fun x => { x with key := k, val := v }) = es.setIfInBounds j { e with key := k, val := v } := by
      apply Array.ext
      · simp
      · intro i hi1 hi2
        have hi : i < es.size := by simpa using hi1
        rw [Array.getElem_modify, Array.getElem_setIfInBounds hi]
        by_cases hij : j = i
        · subst hij
          have : es[j] = e := by simpa [Array.getElem?_eq_getElem hj] using hes
          simp [this]
        · rw [if_neg hij, if_neg hij]
    have hmem : ∀ (x : MapEntry) (i : Nat), (es.setIfInBounds j { e with key := k, val := v }).toList[i]? = some x → (i = j ∧ x = { e with key := k, val := v }) ∨ (i ≠ j ∧ es.toList[i]? = some x) := by
      intro x i hi
      simp only [Array.toList_setIfInBounds] at hi
      by_cases hij : i = j
      · subst hij
        rw [List.getElem?_set_self (by simpa using hj)] at hi
        exact .inl ⟨rfl, by cases hi; rfl⟩
      · rw [List.getElem?_set_ne (fun h => hij h.symm)] at hi
        exact .inr ⟨hij, hi⟩
    refine ⟨setB w b (.map (es.modify j fun x => { x with key := k, val := v }) clock), ?_, ⟨_, _, setB_same h1 _, ?_, ?_, ?_, ?_⟩, onlyB_set h1 _⟩
    · simp [Instr.mapUpdate, run_underlying ht, MapKept.run_getObj_map h1, ok.check _ _ hk, g1, hes, hst, MapKept.run_setObj_map _ h1]
      rfl
    · simp [hM, h2]
    · intro x hx
      rw [hmod] at hx
      obtain ⟨i, hi⟩ := List.mem_iff_getElem?.1 hx
      rcases hmem x i hi with ⟨_, rfl⟩ | ⟨_, hi⟩
      · exact hk
      · exact h3 x (List.mem_of_getElem? hi)
    · rw [hmod]
      have : (es.setIfInBounds j { e with key := k, val := v }).toList.map (·.key) = es.toList.map (·.key) := by
        apply List.ext_getElem?
        intro i
        simp only [Array.toList_setIfInBounds, List.getElem?_map]
        by_cases hij : i = j
        · subst hij
          rw [List.getElem?_set_self (by simpa using hj), g2]; simp [g3]
        · rw [List.getElem?_set_ne (fun h => hij h.symm)]
      rw [this]; exact h4
    · intro q u
      rw [hmod]
      by_cases eq : q = k
      · subst eq
        rw [upd_same]
        constructor
        · intro e'; cases e'
          refine ⟨{ e with key := q, val := v }, ?_, rfl, rfl⟩
          refine List.mem_of_getElem? (i := j) ?_
          simp only [Array.toList_setIfInBounds]
          rw [List.getElem?_set_self (by simpa using hj)]
        · rintro ⟨x, hx, e1, rfl⟩
          obtain ⟨i, hi⟩ := List.mem_iff_getElem?.1 hx
          rcases hmem x i hi with ⟨_, rfl⟩ | ⟨hij, hi⟩
          · rfl
          · exact absurd (nodup_get h4 hi g2 (e1.trans g3.symm)) hij
      · rw [upd_other _ _ eq, h5]
        constructor
        · rintro ⟨x, hx, e1, e2⟩
          obtain ⟨i, hi⟩ := List.mem_iff_getElem?.1 hx
          have hij : i ≠ j := by
            rintro rfl
            rw [g2] at hi; cases hi
            exact eq (e1.symm.trans g3)
          refine ⟨x, List.mem_of_getElem? (i := i) ?_, e1, e2⟩
          simp only [Array.toList_setIfInBounds]
          rw [List.getElem?_set_ne (fun h => hij h.symm)]; exact hi
        · rintro ⟨x, hx, e1, e2⟩
          obtain ⟨i, hi⟩ := List.mem_iff_getElem?.1 hx
          rcases hmem x i hi with ⟨_, rfl⟩ | ⟨hij, hi⟩
          · exact absurd e1.symm eq
          · exact ⟨x, List.mem_of_getElem? hi, e1, e2⟩
theorem MapIs.drop {b n : Nat} {M : Value → Option Value} {T et : TypeId} {k : Value} (h : MapIs w b K n M) (ok : KeyOk P kt K w) (ht : P.underlying T = some (.map kt et)) (hk : K k) (t2 ty : TypeId) :
    ∃ w', (Builtin.delete_ #[T, t2] ty #[.map (some b), k]).run P w = .ok (.tuple #[]) w' ∧ MapIs w' b K (if (M k).isSome then n - 1 else n) (del M k) ∧ OnlyB b w w' := by
  obtain ⟨es, clock, h1, h2, h3, h4, h5⟩ := h
  rcases find_key ok hk es.toList h3 with ⟨g1, g2⟩ | ⟨j, e, g1, g2, g3⟩
  · have hM := entry_of h5 g2
    refine ⟨setB w b (.map es clock), ?_, ⟨_, _, setB_same h1 _, ?_, h3, h4, ?_⟩, onlyB_set h1 _⟩
    · simp [Builtin.delete_, run_underlying ht, MapKept.run_getObj_map h1, ok.check _ _ hk, g1, MapKept.run_setObj_map _ h1]
      rfl
    · simp [hM, h2]
    · intro q u
      by_cases e : q = k
      · subst e
        rw [del_same]
        constructor
        · intro e; cases e
        · rintro ⟨x, hx, e1, _⟩; exact absurd e1 (g2 x hx)
      · rw [del_other _ e, h5]
  · have hM : M k = some e.val := (h5 k e.val).2 ⟨e, List.mem_of_getElem? g2, g3, rfl⟩
    have hj : j < es.size := by have := (List.getElem?_eq_some_iff.1 g2).1; simpa using this
    have hjl : j < es.toList.length := by simpa using hj
    have htl : (es.eraseIdxIfInBounds j).toList = es.toList.eraseIdx j := by
      simp [Array.eraseIdxIfInBounds, hj]
    have hsub : ∀ x, x ∈ es.toList.eraseIdx j ↔ x ∈ es.toList ∧ x.key ≠ k := by
      intro x
      constructor
      · intro hx
        have hx' := List.mem_of_mem_eraseIdx hx
        refine ⟨hx', fun e1 => ?_⟩
        obtain ⟨i, hi⟩ := List.mem_iff_getElem?.1 hx
        rw [List.getElem?_eraseIdx] at hi
        split at hi
        · have := nodup_get h4 hi g2 (e1.trans g3.symm); omega
        · have := nodup_get h4 hi g2 (e1.trans g3.symm); omega
      · rintro ⟨hx, hne⟩
        obtain ⟨i, hi⟩ := List.mem_iff_getElem?.1 hx
        have hij : i ≠ j := by rintro rfl; rw [g2] at hi; cases hi; exact hne g3
        by_cases hlt : i < j
        · exact List.mem_of_getElem? (i := i) (by rw [List.getElem?_eraseIdx, if_pos hlt]; exact hi)
        · exact List.mem_of_getElem? (i := i - 1) (by rw [List.getElem?_eraseIdx, if_neg (by omega), show i - 1 + 1 = i by omega]; exact hi)
    refine ⟨setB w b (.map (es.eraseIdxIfInBounds j) clock), ?_, ⟨_, _, setB_same h1 _, ?_, ?_, ?_, ?_⟩, onlyB_set h1 _⟩
    · simp [Builtin.delete_, run_underlying ht, MapKept.run_getObj_map h1, ok.check _ _ hk, g1, MapKept.run_setObj_map _ h1]
      rfl
    · have := congrArg List.length htl
      rw [List.length_eraseIdx_of_lt hjl] at this
      rw [Array.length_toList, Array.length_toList, h2] at this
      simpa [hM] using this
    · intro x hx
      rw [htl] at hx
      exact h3 x ((hsub x).1 hx).1
    · rw [htl]
      exact h4.sublist ((List.eraseIdx_sublist _ _).map _)
    · intro q u
      rw [htl]
      by_cases eq : q = k
      · subst eq
        rw [del_same]
        constructor
        · intro e; cases e
        · rintro ⟨x, hx, e1, _⟩; exact absurd e1 ((hsub x).1 hx).2
      · rw [del_other _ eq, h5]
        constructor
        · rintro ⟨x, hx, e1, e2⟩; exact ⟨x, (hsub x).2 ⟨hx, by rw [e1]; exact eq⟩, e1, e2⟩
        · rintro ⟨x, hx, e1, e2⟩; exact ⟨x, ((hsub x).1 hx).1, e1, e2⟩
theorem MapIs.len {b n : Nat} {M : Value → Option Value} {T et : TypeId} (h : MapIs w b K n M) (ht : P.underlying T = some (.map kt et)) (ty : TypeId) : (Builtin.len_ #[T] ty #[.map (some b)]).run P w = .ok (.int .i64 n) w := by
  obtain ⟨es, clock, h1, h2, _⟩ := h
  simp [Builtin.len_, run_underlying ht, MapKept.run_getObj_map h1, goInt, Result.andThen, h2]
/-- A nil map. -/
theorem look_nil {T et : TypeId} {z k : Value} (ok : KeyOk P kt K w) (ht : P.underlying T = some (.map kt et)) (hz : (zeroValue et).run P w = .ok z w) (hk : K k) (c : Bool) :
    (Instr.lookup T (.map none) k c).run P w = .ok (if c then .tuple #[z, .bool false] else z) w := by
  rcases find_key ok hk [] (by simp) with ⟨g1, g2⟩ | ⟨j, e, g1, g2, g3⟩
  · simp [Instr.lookup, run_underlying ht, ok.check _ _ hk, g1, hz]
  · simp at g2
end
/-- Strings as keys. -/
def StrKey (v : Value) : Prop := ∃ s, v = .string s
theorem bytes_beq (s s' : ByteArray) : (s == s') = true ↔ s = s' := by
  constructor
  · intro h
    have h1 : (s.data == s'.data) = true := h
    cases s; cases s'
    simp at h1
    exact congrArg _ h1
  · rintro rfl
    show (s.data == s.data) = true
    simp
theorem check_str {P : Program} {kt : TypeId} (h : P.underlying kt = some .string) (w : World) (em : Bool) (n : Nat) (s : ByteArray) : (Instr.checkKey em (n + 1) kt (.string s)).run P w = .ok () w := by
  simp [Instr.checkKey, run_underlying h]
theorem equal_str {P : Program} {kt : TypeId} (h : P.underlying kt = some .string) (w : World) (n : Nat) (s s' : ByteArray) : (Op.equalIn (n + 1) kt (.string s) (.string s')).run P w = .ok (s == s') w := by
  simp [Op.equalIn, run_underlying h]
theorem strKey {P : Program} {kt : TypeId} (h : P.underlying kt = some .string) (w : World) : KeyOk P kt StrKey w where
  check em k hk := by obtain ⟨s, rfl⟩ := hk; exact check_str h w em 9999 s
  equal k k' hk hk' := by
    obtain ⟨s, rfl⟩ := hk; obtain ⟨s', rfl⟩ := hk'
    refine ⟨s == s', equal_str h w 9999 s s', ?_⟩
    rw [bytes_beq]; simp
  now := ⟨.string, h, fun k k' hk hk' => by
    obtain ⟨s, rfl⟩ := hk; obtain ⟨s', rfl⟩ := hk'
    exact .inr ⟨s == s', rfl, by rw [bytes_beq]; simp⟩⟩
  stays k hk := by
    obtain ⟨s, rfl⟩ := hk
    show (s == s) = true
    rw [bytes_beq]
theorem part0 (w : World) (a : Int) : (part 21 #[.int .i32 a] 0).run Try.prog w = .ok (.int .i32 a) w := by kernel_rfl
theorem eqi (w : World) (n : Nat) (a c : Int) : (Op.equalIn (n + 1) 21 (.int .i32 a) (.int .i32 c)).run Try.prog w = .ok (a == c) w := by
  simp [Op.equalIn, run_underlying Try.underlying21]
theorem eqr (w : World) (n : Nat) (a c : Int) : (Op.equalIn (n + 1 + 1) 28 (.agg #[.int .i32 a]) (.agg #[.int .i32 c])).run Try.prog w = .ok (a == c) w := by
  rw [Op.equalIn]
  cases h1 : a == c <;> simp [run_underlying Try.underlying28, part0, eqi, h1]
theorem ckr (w : World) (em : Bool) (n : Nat) (a : Int) : (Instr.checkKey em (n + 2) 28 (.agg #[.int .i32 a])).run Try.prog w = .ok () w := by
  simp [Instr.checkKey, run_underlying Try.underlying28, run_underlying Try.underlying21, part0]
/-- A location as a key. -/
def LocKey (v : Value) : Prop := ∃ a : Int, v = .agg #[.int .i32 a]
theorem locKey (w : World) : KeyOk Try.prog 28 LocKey w where
  check em k hk := by obtain ⟨a, rfl⟩ := hk; exact ckr w em 9998 a
  equal k k' hk hk' := by
    obtain ⟨a, rfl⟩ := hk; obtain ⟨c, rfl⟩ := hk'
    refine ⟨a == c, eqr w 9998 a c, ?_⟩
    simp
  now := ⟨_, Try.underlying28, fun k k' hk hk' => by
    obtain ⟨a, rfl⟩ := hk; obtain ⟨c, rfl⟩ := hk'
    exact .inl rfl⟩
  stays k hk := by
    obtain ⟨a, rfl⟩ := hk
    simp [Instr.sameBits]
end Go.Proofs.Ythhlioepgfjknaa.mk
