/-
  The widths; one code point is encoded.
-/
import Derived.Test.YthmakfnceliciaaVg
import Derived.Laws.BytesArg

namespace Go.Proofs.Ythmakfnceliciaa.ty
open Go.ChangeShapes Go.WideShapes Go.ChangeAt Go.RowKit Go.Deep Go.Proofs.Ythmakfnceliciaa.mk Go.Proofs.Ythmakfnceliciaa.u8
set_option linter.unusedVariables false
set_option linter.unusedSimpArgs false
set_option maxRecDepth 100000
set_option maxHeartbeats 4000000
theorem width12 (w : World) (b : Nat) (hb : b < 256) : Calls Try.prog 12 #[.int .u8 b] w fun e w' => e = .returned (.int .i64 (wdt b)) ∧ w = w' := by
  by_cases h1 : b < 128
  · have H : Hid (wdt b = 1) := Lib.hid (by simp [wdt, h1])
    go_enter Try.func12, Try.ntmps12
    go_wp2_with fail
    go_ret
    exact ⟨by rw [H.out]; rfl, rfl⟩
  by_cases h2 : b < 224
  · have H : Hid (wdt b = 2) := Lib.hid (by simp [wdt, h1, h2])
    go_enter Try.func12, Try.ntmps12
    go_wp2_with fail
    go_ret
    exact ⟨by rw [H.out]; rfl, rfl⟩
  by_cases h3 : b < 240
  · have H : Hid (wdt b = 3) := Lib.hid (by simp [wdt, h1, h2, h3])
    go_enter Try.func12, Try.ntmps12
    go_wp2_with fail
    go_ret
    exact ⟨by rw [H.out]; rfl, rfl⟩
  · have H : Hid (wdt b = 4) := Lib.hid (by simp [wdt, h1, h2, h3])
    go_enter Try.func12, Try.ntmps12
    go_wp2_with fail
    go_ret
    exact ⟨by rw [H.out]; rfl, rfl⟩
theorem bytes11 (w : World) (s : ByteArray) (p r : Int) (v : Bool) (hv : decide (s.size ≤ 1048576) = v) (hm : s.size ≤ maxLen) :
    Calls Try.prog 11 #[.string s, .int .i64 p, .int .i32 r] w fun e w' => e = .returned (.bool v) ∧ w = w' := by
  unfold maxLen at hm
  have HV := Lib.hid hv
  clear hv
  by_cases h1 : 1048576 < s.size
  · obtain rfl : v = false := by rw [← HV.out]; simp; omega
    go_enter Try.func11, Try.ntmps11
    go_wp2_with fail
    go_ret
    exact ⟨rfl, rfl⟩
  obtain rfl : v = true := by rw [← HV.out]; simp; omega
  go_enter Try.func11, Try.ntmps11
  go_wp2_with fail
  go_ret
  exact ⟨rfl, rfl⟩
theorem conv1 (x0 : Int) (w : World) : (convert 36 9 (.slice (some ⟨w.heap.size, 0, none⟩) 1 1)).run Try.prog (w.alloc (.cells #[.int .u8 x0] 5)) = .ok (.string (strOfNums [x0])) (w.alloc (.cells #[.int .u8 x0] 5)) := by
  refine run_convert_bytes_arg _ 36 5 Try.underlying36 Try.underlying5 w.heap.size 0 1 1 [x0] rfl (fun i hi => ?_) 9 Try.underlying9
  rw [cell_of_row _ _ (0 + i) _ _ _ (heap_alloc_new w _)]
  have : i = 0 := by omega
  rcases this with rfl <;> rfl
theorem conv2 (x0 x1 : Int) (w : World) : (convert 36 9 (.slice (some ⟨w.heap.size, 0, none⟩) 2 2)).run Try.prog (w.alloc (.cells #[.int .u8 x0, .int .u8 x1] 5)) = .ok (.string (strOfNums [x0, x1])) (w.alloc (.cells #[.int .u8 x0, .int .u8 x1] 5)) := by
  refine run_convert_bytes_arg _ 36 5 Try.underlying36 Try.underlying5 w.heap.size 0 2 2 [x0, x1] rfl (fun i hi => ?_) 9 Try.underlying9
  rw [cell_of_row _ _ (0 + i) _ _ _ (heap_alloc_new w _)]
  have : i = 0 ∨ i = 1 := by omega
  rcases this with rfl | rfl <;> rfl
theorem conv3 (x0 x1 x2 : Int) (w : World) : (convert 36 9 (.slice (some ⟨w.heap.size, 0, none⟩) 3 3)).run Try.prog (w.alloc (.cells #[.int .u8 x0, .int .u8 x1, .int .u8 x2] 5)) = .ok (.string (strOfNums [x0, x1, x2])) (w.alloc (.cells #[.int .u8 x0, .int .u8 x1, .int .u8 x2] 5)) := by
  refine run_convert_bytes_arg _ 36 5 Try.underlying36 Try.underlying5 w.heap.size 0 3 3 [x0, x1, x2] rfl (fun i hi => ?_) 9 Try.underlying9
  rw [cell_of_row _ _ (0 + i) _ _ _ (heap_alloc_new w _)]
  have : i = 0 ∨ i = 1 ∨ i = 2 := by omega
  rcases this with rfl | rfl | rfl <;> rfl
theorem conv4 (x0 x1 x2 x3 : Int) (w : World) : (convert 36 9 (.slice (some ⟨w.heap.size, 0, none⟩) 4 4)).run Try.prog (w.alloc (.cells #[.int .u8 x0, .int .u8 x1, .int .u8 x2, .int .u8 x3] 5)) = .ok (.string (strOfNums [x0, x1, x2, x3])) (w.alloc (.cells #[.int .u8 x0, .int .u8 x1, .int .u8 x2, .int .u8 x3] 5)) := by
  refine run_convert_bytes_arg _ 36 5 Try.underlying36 Try.underlying5 w.heap.size 0 4 4 [x0, x1, x2, x3] rfl (fun i hi => ?_) 9 Try.underlying9
  rw [cell_of_row _ _ (0 + i) _ _ _ (heap_alloc_new w _)]
  have : i = 0 ∨ i = 1 ∨ i = 2 ∨ i = 3 := by omega
  rcases this with rfl | rfl | rfl | rfl <;> rfl
theorem str_size (xs : List Int) : (strOfNums xs).size = xs.length := by simp [strOfNums, ByteArray.size]
theorem bt_str (xs : List Int) (i v : Nat) (h : xs[i]? = some (v : Int)) (hv : v < 256) : bt (strOfNums xs) i = v := by
  have hi : i < xs.length := (List.getElem?_eq_some_iff.1 h).1
  have hs : i < (strOfNums xs).size := by rw [str_size]; exact hi
  have e := bt_list (strOfNums xs) i hs
  rw [strOfNums_data, List.getElem?_map, h] at e
  simp at e
  omega
theorem or192 : ∀ x, x < 32 → bits .or .u8 192 ((x : Nat) : Int) = ((192 + x : Nat) : Int) := by decide +kernel
theorem or224 : ∀ x, x < 16 → bits .or .u8 224 ((x : Nat) : Int) = ((224 + x : Nat) : Int) := by decide +kernel
theorem or240 : ∀ x, x < 8 → bits .or .u8 240 ((x : Nat) : Int) = ((240 + x : Nat) : Int) := by decide +kernel
theorem enc1 {c : Nat} (h : c < 128) : Rb (strOfNums [(c : Int)]) 0 1 :=
  ⟨by rw [str_size]; simp, .inl ⟨rfl, by rw [bt_str _ 0 c rfl (by omega)]; exact h⟩⟩
theorem enc2 {c : Nat} (h1 : ¬ c < 128) (h2 : c < 2048) : Rb (strOfNums [bits .or .u8 192 ((c : Int) / 64 % 256), 128 + (c : Int) % 64]) 0 2 := by
  have e0 : bits .or .u8 192 ((c : Int) / 64 % 256) = ((192 + c / 64 : Nat) : Int) := by rw [← or192 (c / 64) (by omega)]; congr 1; omega
  have e1 : 128 + (c : Int) % 64 = ((128 + c % 64 : Nat) : Int) := by omega
  rw [e0, e1]
  have b0 := bt_str [((192 + c / 64 : Nat) : Int), ((128 + c % 64 : Nat) : Int)] 0 (192 + c / 64) rfl (by omega)
  have b1 := bt_str [((192 + c / 64 : Nat) : Int), ((128 + c % 64 : Nat) : Int)] 1 (128 + c % 64) rfl (by omega)
  exact ⟨by rw [str_size]; simp, .inr ⟨128, 191, by rw [b0]; unfold Tb; omega, by rw [Nat.zero_add, b1]; omega, by rw [Nat.zero_add, b1]; omega, fun k _ _ => by omega⟩⟩
theorem enc3 {c : Nat} (hg : GoodR c) (h2 : ¬ c < 2048) (h3 : c < 65536) : Rb (strOfNums [bits .or .u8 224 ((c : Int) / 4096 % 256), 128 + (c : Int) / 64 % 64, 128 + (c : Int) % 64]) 0 3 := by
  unfold GoodR at hg
  have e0 : bits .or .u8 224 ((c : Int) / 4096 % 256) = ((224 + c / 4096 : Nat) : Int) := by rw [← or224 (c / 4096) (by omega)]; congr 1; omega
  have e1 : 128 + (c : Int) / 64 % 64 = ((128 + c / 64 % 64 : Nat) : Int) := by omega
  have e2 : 128 + (c : Int) % 64 = ((128 + c % 64 : Nat) : Int) := by omega
  rw [e0, e1, e2]
  have b0 := bt_str [((224 + c / 4096 : Nat) : Int), ((128 + c / 64 % 64 : Nat) : Int), ((128 + c % 64 : Nat) : Int)] 0 (224 + c / 4096) rfl (by omega)
  have b1 := bt_str [((224 + c / 4096 : Nat) : Int), ((128 + c / 64 % 64 : Nat) : Int), ((128 + c % 64 : Nat) : Int)] 1 (128 + c / 64 % 64) rfl (by omega)
  have b2 := bt_str [((224 + c / 4096 : Nat) : Int), ((128 + c / 64 % 64 : Nat) : Int), ((128 + c % 64 : Nat) : Int)] 2 (128 + c % 64) rfl (by omega)
  refine ⟨by rw [str_size]; simp, .inr ?_⟩
  have hk : ∀ k, 2 ≤ k → k < 3 → 128 ≤ bt (strOfNums [((224 + c / 4096 : Nat) : Int), ((128 + c / 64 % 64 : Nat) : Int), ((128 + c % 64 : Nat) : Int)]) (0 + k) ∧ bt (strOfNums [((224 + c / 4096 : Nat) : Int), ((128 + c / 64 % 64 : Nat) : Int), ((128 + c % 64 : Nat) : Int)]) (0 + k) ≤ 191 := fun k _ _ => by
    obtain rfl : k = 2 := by omega
    rw [Nat.zero_add, b2]; omega
  by_cases z0 : c / 4096 = 0
  · exact ⟨160, 191, by rw [b0]; unfold Tb; omega, by rw [Nat.zero_add, b1]; omega, by rw [Nat.zero_add, b1]; omega, hk⟩
  by_cases z1 : c / 4096 = 13
  · exact ⟨128, 159, by rw [b0]; unfold Tb; omega, by rw [Nat.zero_add, b1]; omega, by rw [Nat.zero_add, b1]; omega, hk⟩
  · exact ⟨128, 191, by rw [b0]; unfold Tb; omega, by rw [Nat.zero_add, b1]; omega, by rw [Nat.zero_add, b1]; omega, hk⟩
theorem enc4 {c : Nat} (hg : GoodR c) (h3 : ¬ c < 65536) : Rb (strOfNums [bits .or .u8 240 ((c : Int) / 262144 % 256), 128 + (c : Int) / 4096 % 64, 128 + (c : Int) / 64 % 64, 128 + (c : Int) % 64]) 0 4 := by
  unfold GoodR at hg
  have e0 : bits .or .u8 240 ((c : Int) / 262144 % 256) = ((240 + c / 262144 : Nat) : Int) := by rw [← or240 (c / 262144) (by omega)]; congr 1; omega
  have e1 : 128 + (c : Int) / 4096 % 64 = ((128 + c / 4096 % 64 : Nat) : Int) := by omega
  have e2 : 128 + (c : Int) / 64 % 64 = ((128 + c / 64 % 64 : Nat) : Int) := by omega
  have e3 : 128 + (c : Int) % 64 = ((128 + c % 64 : Nat) : Int) := by omega
  rw [e0, e1, e2, e3]
  generalize hxs : [((240 + c / 262144 : Nat) : Int), ((128 + c / 4096 % 64 : Nat) : Int), ((128 + c / 64 % 64 : Nat) : Int), ((128 + c % 64 : Nat) : Int)] = xs
  have b0 := bt_str xs 0 (240 + c / 262144) (by rw [← hxs]; rfl) (by omega)
  have b1 := bt_str xs 1 (128 + c / 4096 % 64) (by rw [← hxs]; rfl) (by omega)
  have b2 := bt_str xs 2 (128 + c / 64 % 64) (by rw [← hxs]; rfl) (by omega)
  have b3 := bt_str xs 3 (128 + c % 64) (by rw [← hxs]; rfl) (by omega)
  refine ⟨by rw [str_size, ← hxs]; simp, .inr ?_⟩
  have hk : ∀ k, 2 ≤ k → k < 4 → 128 ≤ bt (strOfNums xs) (0 + k) ∧ bt (strOfNums xs) (0 + k) ≤ 191 := fun k _ _ => by
    have : k = 2 ∨ k = 3 := by omega
    rcases this with rfl | rfl
    · rw [Nat.zero_add, b2]; omega
    · rw [Nat.zero_add, b3]; omega
  by_cases z0 : c / 262144 = 0
  · exact ⟨144, 191, by rw [b0]; unfold Tb; omega, by rw [Nat.zero_add, b1]; omega, by rw [Nat.zero_add, b1]; omega, hk⟩
  by_cases z1 : c / 262144 = 4
  · exact ⟨128, 143, by rw [b0]; unfold Tb; omega, by rw [Nat.zero_add, b1]; omega, by rw [Nat.zero_add, b1]; omega, hk⟩
  · exact ⟨128, 191, by rw [b0]; unfold Tb; omega, by rw [Nat.zero_add, b1]; omega, by rw [Nat.zero_add, b1]; omega, hk⟩
def EncP (w : World) (c : Nat) (e : Ending) (w' : World) : Prop := ∃ E n, e = .returned (.string E) ∧ E.size = n ∧ Rb E 0 n ∧ Below w.heap.size w w'
theorem enc13 (w : World) (c : Nat) (h : GoodR c) : Calls Try.prog 13 #[.int .i32 c] w (EncP w c) := by
  unfold GoodR at h
  have h0 : ¬ ((c : Int) < 0) := by omega
  have k1 := conv1
  have k2 := conv2
  have k3 := conv3
  have k4 := conv4
  by_cases h1 : c < 128
  · go_enter Try.func13, Try.ntmps13
    go_wp2_with fail
    go_ret
    exact ⟨_, _, rfl, str_size _, enc1 h1, (Below.refl _ _).alloc (Nat.le_refl _) _⟩
  have H0 := Lib.hid h
  have H1 := Lib.hid h1
  have hc0 : (0 : Int) ≤ (c : Int) := by omega
  have d1 : decide ((c : Int) < 128) = false := by simp; omega
  by_cases h2 : c < 2048
  · have H2 := Lib.hid h2
    have d2 : decide ((c : Int) < 2048) = true := by simp; omega
    clear h h0 h1 h2
    go_enter Try.func13, Try.ntmps13
    go_wp2_with fail
    go_ret
    exact ⟨_, _, rfl, str_size _, enc2 H1.out H2.out, (Below.refl _ _).alloc (Nat.le_refl _) _⟩
  have d2 : decide ((c : Int) < 2048) = false := by simp; omega
  have H2 := Lib.hid h2
  by_cases h3 : c < 65536
  · have H3 := Lib.hid h3
    have d3 : decide ((c : Int) < 65536) = true := by simp; omega
    clear h h0 h1 h2 h3
    go_enter Try.func13, Try.ntmps13
    go_wp2_with fail
    go_ret
    exact ⟨_, _, rfl, str_size _, enc3 H0.out H2.out H3.out, (Below.refl _ _).alloc (Nat.le_refl _) _⟩
  · have H3 := Lib.hid h3
    have d3 : decide ((c : Int) < 65536) = false := by simp; omega
    clear h h0 h1 h2 h3
    go_enter Try.func13, Try.ntmps13
    go_wp2_with fail
    go_ret
    exact ⟨_, _, rfl, str_size _, enc4 H0.out H3.out, (Below.refl _ _).alloc (Nat.le_refl _) _⟩
end Go.Proofs.Ythmakfnceliciaa.ty
