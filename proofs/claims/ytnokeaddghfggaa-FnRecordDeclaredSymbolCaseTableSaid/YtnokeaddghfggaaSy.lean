/-
  Declared symbols: names, symbols.
-/
import Derived.Test.YtnokeaddghfggaaPu
namespace Go.Proofs.Ytnokeaddghfggaa.ds
open Go.ChangeShapes Go.WideShapes Go.ChangeAt Go.RowKit Go.Deep Go.Proofs.Ytnokeaddghfggaa.mk
set_option linter.unusedVariables false
set_option linter.unusedSimpArgs false

theorem conv_nm (w : World) (j : Nat) (hj : j < 8) : (convert 22 9 (.slice (some ⟨w.heap.size, 0, none⟩) 2 2)).run Try.prog (w.alloc (.cells #[.int .u8 110, .int .u8 (48 + (j : Int))] 5)) = .ok (.string (nm j)) (w.alloc (.cells #[.int .u8 110, .int .u8 (48 + (j : Int))] 5)) := by
  have hb := heap_alloc_new w (.cells #[.int .u8 110, .int .u8 (48 + (j : Int))] 5)
  have := run_convert_bytes_back (P := Try.prog) (w.alloc (.cells #[.int .u8 110, .int .u8 (48 + (j : Int))] 5)) 22 9 5 ⟨w.heap.size, 0, none⟩ 2 [110, (48 + j).toUInt8] Try.underlying22 Try.underlying5 Try.underlying9 (fun i hi => by
    have hi2 : i < 2 := hi
    rw [show (⟨w.heap.size, 0, none⟩ : Addr).add i = ⟨w.heap.size, i, none⟩ by simp [Addr.add]; omega, cell_of_row _ _ i _ _ _ hb]
    rcases (show i = 0 ∨ i = 1 by omega) with rfl | rfl
    · rfl
    · have e : (48 + j) % 256 = 48 + j := by omega
      simp [Nat.toUInt8, UInt8.toNat_ofNat', e])
  exact this
theorem name14 (w : World) (j : Nat) (hj : j < 8) : Calls Try.prog 14 #[.int .u8 j] w (BelP (.string (nm j)) w) := by
  have hm : (j : Int) % 8 = j := by omega
  have hcv := fun w => conv_nm w j hj
  go_enter Try.func14, Try.ntmps14
  go_wp2
  go_ret
  exact ⟨rfl, (Below.refl _ _).alloc (Nat.le_refl _) _⟩
/-- The cells of symbol i. -/
def symC (N : Nat → Int) (ln : Nat) (K : Nat → Int) (lk i : Nat) : List Value := [.pointer none, .string (nm (nix N ln i)), .int .u32 0, .int .u32 0, .int .u32 0, .int .u32 0, .int .u32 0, .int .u16 0, .int .u8 (knd K lk i), .int .u8 0]
def sym0 : List Value := [.pointer none, .string ByteArray.empty, .int .u32 0, .int .u32 0, .int .u32 0, .int .u32 0, .int .u32 0, .int .u16 0, .int .u8 0, .int .u8 0]
theorem info64 : (Try.prog.info? 64).map (fun i => (i.zero.map (·.cells), i.size, i.bytes)) = some (some #[.pointer none, .string ByteArray.empty, .int .u32 0, .int .u32 0, .int .u32 0, .int .u32 0, .int .u32 0, .int .u16 0, .int .u8 0, .int .u8 0], 10, 48) := by kernel_rfl
def symz (n : Nat) : Array Value := madeCells #[.pointer none, .string ByteArray.empty, .int .u32 0, .int .u32 0, .int .u32 0, .int .u32 0, .int .u32 0, .int .u16 0, .int .u8 0, .int .u8 0] (n * 10)
theorem symz_get (n i r : Nat) (hi : i < n) (hr : r < 10) : (symz n)[i * 10 + r]? = sym0[r]? := by
  have h : i * 10 + r < n * 10 := by omega
  have h2 : (i * 10 + r) % 10 = r := by omega
  have hr' : r = 0 ∨ r = 1 ∨ r = 2 ∨ r = 3 ∨ r = 4 ∨ r = 5 ∨ r = 6 ∨ r = 7 ∨ r = 8 ∨ r = 9 := by omega
  rcases hr' with rfl | rfl | rfl | rfl | rfl | rfl | rfl | rfl | rfl | rfl
  · have h0 : i * 10 < n * 10 := by omega
    simp [symz, madeCells, h0, sym0, Nat.mul_mod_left]
  all_goals simp [symz, madeCells, h, h2, sym0]
theorem made26 (n : Nat) (hn : n ≤ 65537) (w : World) : (Instr.makeSlice 26 (.int .i64 n) (.int .i64 n)).run Try.prog w = .ok (.slice (some ⟨w.heap.size, 0, none⟩) n n) (w.alloc (.cells (symz n) 64)) := by
  obtain ⟨i, hi, hz⟩ := Option.map_eq_some_iff.1 info64
  simp only [Prod.mk.injEq] at hz
  obtain ⟨h1, h2, h3⟩ := hz
  obtain ⟨z, hz, hzc⟩ := Option.map_eq_some_iff.1 h1
  have hr := run_make (P := Try.prog) w 26 64 i z Try.underlying26 hi hz .i64 .i64 n n (by omega) (Int.le_refl _) (by rw [h3]; omega) (by omega)
  simp only [Int.toNat_natCast, hzc, h2] at hr
  exact hr
/-- Symbols at block B: of the first n, number i as F says, ten cells each. -/
def Syms (w : World) (B n : Nat) (F : Nat → List Value) : Prop := (∀ i r v, i < n → (F i)[r]? = some v → r < 10 → w.cell? ⟨B, i * 10 + r, none⟩ = some v) ∧ (∀ i, (F i).length = 10) ∧ ∀ o, w.frozen? ⟨B, o, none⟩ = false
theorem Syms.set {w : World} {B n : Nat} {F : Nat → List Value} (h : Syms w B n F) {i r : Nat} (hi : i < n) (hr : r < 10) (v : Value) : Syms (w.setCell ⟨B, i * 10 + r, none⟩ v) B n (fun j => if j = i then (F j).set r v else F j) := by
  refine ⟨fun j q u hj hu hq => ?_, fun j => ?_, fun o => (World.frozen?_setCell _ _ _ _).trans (h.2.2 o)⟩
  · by_cases e : j = i
    · subst e
      simp only [if_true] at hu
      rw [List.getElem?_set] at hu
      by_cases eq : r = q
      · subst eq
        rw [if_pos rfl, if_pos (by rw [h.2.1]; exact hr)] at hu
        cases hu
        exact World.cell?_setCell_same _ _ _ (h.1 j r _ hj (List.getElem?_eq_getElem (by rw [h.2.1]; exact hr)) hr)
      · rw [if_neg eq] at hu
        exact (World.cell?_setCell_other _ _ _ _ (fun e => by have := congrArg Addr.off e; simp at this; omega)).trans (h.1 j q u hj hu hq)
    · simp only [if_neg e] at hu
      exact (World.cell?_setCell_other _ _ _ _ (fun e' => by have := congrArg Addr.off e'; simp at this; omega)).trans (h.1 j q u hj hu hq)
  · by_cases e : j = i
    · simp [e, h.2.1]
    · simp [e, h.2.1]
theorem Syms.of_block {w w' : World} {B n : Nat} {F : Nat → List Value} (h : Syms w B n F) (e : w'.heap[B]? = w.heap[B]?) : Syms w' B n F :=
  ⟨fun i r v hi hv hr => (World.cell?_of_block (a := ⟨B, i * 10 + r, none⟩) e).trans (h.1 i r v hi hv hr), h.2.1, fun o => (World.frozen?_of_block (a := ⟨B, o, none⟩) e).trans (h.2.2 o)⟩
theorem Syms.congr {w : World} {B n : Nat} {F G : Nat → List Value} (h : Syms w B n F) (e : ∀ i, F i = G i) : Syms w B n G := by
  obtain rfl : F = G := funext e; exact h
def SymP (w : World) (n : Nat) (F : Nat → List Value) (e : Ending) (w' : World) : Prop := ∃ B, e = .returned (.slice (some ⟨B, 0, none⟩) n n) ∧ w.heap.size ≤ B ∧ B < w'.heap.size ∧ Syms w' B n F ∧ Below w.heap.size w w'
theorem belSet {w w' : World} (h : Below w.heap.size w w') {b : Nat} (hb : w.heap.size ≤ b) (i : Nat) (v : Value) : Below w.heap.size w (w'.setCell ⟨b, i, none⟩ v) :=
  h.trans ⟨rfl, rfl, rfl, by simp [World.setCell], fun k hk => Below.heap_setCell _ _ _ _ (by show k ≠ b; omega)⟩
set_option maxRecDepth 100000 in
set_option maxHeartbeats 4000000 in
theorem syms5 (w : World) (n : Nat) (aK : Option Addr) (lk ck : Nat) (K : Nat → Int) (aN : Option Addr) (ln cn : Nat) (N : Nat → Int) (hn : n ≤ 65537) (hlk : lk ≤ 65536) (hln : ln ≤ 65536) (hK : ∀ i, 0 ≤ K i ∧ K i < 256) (hN : ∀ i, 0 ≤ N i ∧ N i < 256)
    (rK : Row w aK lk fun i => .int .u8 (K i)) (rN : Row w aN ln fun i => .int .u8 (N i)) :
    Calls Try.prog 5 #[.int .i64 n, .slice aK lk ck, .slice aN ln cn] w (SymP w n (symC N ln K lk)) := by
  have HK := Lib.hid hK
  have HN := Lib.hid hN
  have RK := Lib.hid rK
  have RN := Lib.hid rN
  clear hK hN rK rN
  have hmk := made26 n hn
  go_enter Try.func5, Try.ntmps5
  go_wp2_with fail
  clear hmk
  have HB0 : Hid (Below w.heap.size w (w.alloc (.cells (symz n) 64))) := Lib.hid ((Below.refl _ _).alloc (Nat.le_refl _) _)
  have HS0 : Hid (Syms (w.alloc (.cells (symz n) 64)) w.heap.size n (fun i => if i < 0 then symC N ln K lk i else sym0)) := Lib.hid ⟨fun i r v hi hv hr => by
    rw [cell_of_row _ _ _ _ _ _ (heap_alloc_new w _), symz_get n i r hi hr]; simpa using hv, fun i => by simp [sym0], fun o => frozen_of_row _ _ _ _ _ (heap_alloc_new w _)⟩
  have HL0 : Hid (w.heap.size < (w.alloc (.cells (symz n) 64)).heap.size) := Lib.hid (by simp)
  generalize w.alloc (.cells (symz n) 64) = w1 at *
  go_loopw [8] (fun i wr => ∃ k : Nat, k ≤ n ∧ i = .int .i64 k ∧ Syms wr w.heap.size n (fun i => if i < k then symC N ln K lk i else sym0) ∧ Below w.heap.size w wr ∧ w.heap.size < wr.heap.size) (fun i _ => n - (intOf i).toNat)
  case atStart => exact ⟨0, by omega, rfl, HS0.out, HB0.out, HL0.out⟩
  case round =>
    clear HB0 HS0 HL0
    obtain ⟨k, hk, rfl, hS, hB, hL⟩ := hrel
    have HS := Lib.hid hS
    have HB := Lib.hid hB
    have HL := Lib.hid hL
    clear hS hB hL
    by_cases hlt : k < n
    · go_wp2_with fail
      rename World => wr
      refine (nameIdx13 wr aN ln cn N k hln (by omega) HN.out (RN.out.below HB.out)).mono ?_
      rintro e wr' ⟨rfl, rfl⟩
      go_simp
      go_wp2_with fail
      rename World => wr
      refine (name14 wr (nix N ln k) (nix_lt _ _ _)).mono ?_
      rintro e w2 ⟨rfl, hb2⟩
      have hS2 := HS.out.of_block (hb2.block _ HL.out)
      have c1 := hS2.1 k 1 (.string ByteArray.empty) hlt (by simp [sym0]) (by omega)
      have f1 := hS2.2.2 (k * 10 + 1)
      have HS2 := Lib.hid hS2
      have HB2 : Hid (Below w.heap.size w w2) := Lib.hid (HB.out.trans (hb2.mono HB.out.size))
      have HL2 : Hid (w.heap.size < w2.heap.size) := Lib.hid (Nat.lt_of_lt_of_le HL.out hb2.size)
      clear hS2 hb2 HS HB HL
      go_simp
      go_wp2_with fail
      have HS3 := Lib.hid (HS2.out.set hlt (show 1 < 10 by omega) (.string (nm (nix N ln k))))
      have HB3 := Lib.hid (belSet HB2.out (Nat.le_refl _) (k * 10 + 1) (.string (nm (nix N ln k))))
      have HL3 : Hid (w.heap.size < (w2.setCell ⟨w.heap.size, k * 10 + 1, none⟩ (.string (nm (nix N ln k)))).heap.size) := Lib.hid (by simpa [World.setCell] using HL2.out)
      clear c1 f1 HS2 HB2 HL2
      generalize w2.setCell ⟨w.heap.size, k * 10 + 1, none⟩ (.string (nm (nix N ln k))) = w3 at *
      refine (symKind15 w3 aK lk ck K k hlk (by omega) HK.out (RK.out.below HB3.out)).mono ?_
      rintro e w3' ⟨rfl, rfl⟩
      have c1 := HS3.out.1 k 8 (.int .u8 0) hlt (by simp [sym0]) (by omega)
      have f1 := HS3.out.2.2 (k * 10 + 8)
      go_simp
      go_wp2_with fail
      go_roundw
      case rel =>
        refine ⟨k + 1, by omega, by go_num, (HS3.out.set hlt (show 8 < 10 by omega) _).congr (fun i => ?_), belSet HB3.out (Nat.le_refl _) _ _, by simpa [World.setCell] using HL3.out⟩
        by_cases e : i = k
        · subst e; simp [sym0, symC]
        · simp only [if_neg e]
          by_cases h : i < k
          · rw [if_pos h, if_pos (by omega)]
          · rw [if_neg h, if_neg (by omega)]
      case measure => simp [intOf]; omega
    · obtain rfl : k = n := by omega
      go_wp2_with fail
      go_ret
      exact ⟨_, rfl, Nat.le_refl _, HL.out, ⟨fun i r v hi hv hr => HS.out.1 i r v hi (by show (if i < k then symC N ln K lk i else sym0)[r]? = some v; rw [if_pos hi]; exact hv) hr, fun i => by simp [symC], HS.out.2.2⟩, HB.out⟩
end Go.Proofs.Ytnokeaddghfggaa.ds
