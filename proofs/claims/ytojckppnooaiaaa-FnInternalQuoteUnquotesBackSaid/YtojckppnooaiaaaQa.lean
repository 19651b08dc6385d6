/-
  Generalized UTF-8 and the quoting table, in plain words.
-/
import Derived.WalkKit
import Derived.Lib.AppendStr
import Derived.Laws.BitsLemmas
namespace Go.Proofs.Ytojckppnooaiaaa.qp
set_option linter.unusedVariables false
set_option linter.unusedSimpArgs false
def bt (s : ByteArray) (i : Nat) : Nat := (s.get! i).toNat
theorem bt_lt (s : ByteArray) (i : Nat) : bt s i < 256 := (s.get! i).toNat_lt
theorem bt_at (s : ByteArray) (i : Nat) (h : i < s.size) : (s[i]'h).toNat = bt s i := by
  have e : s.get! i = s[i]'h := by
    show s.get! i = _
    simp [ByteArray.get!, getElem!_pos, h]
    rfl
  unfold bt
  rw [e]
/-- The bytes of s from i to j. -/
def sx (s : ByteArray) (i j : Nat) : List Int := (s.extract i j).data.toList.map fun b => (b.toNat : Int)
theorem strCells_sx (s : ByteArray) (i j : Nat) : Lib.strCells (s.extract i j) = (sx s i j).map (Value.int .u8) := by
  unfold Lib.strCells sx
  rw [List.map_map]; rfl
theorem sx_len (s : ByteArray) {i j : Nat} (h : j ≤ s.size) : (sx s i j).length = j - i := by
  unfold sx
  rw [List.length_map, Array.length_toList]
  show (s.extract i j).size = _
  simp [ByteArray.size_extract]; omega
theorem sx_get (s : ByteArray) {i j k : Nat} (h : j ≤ s.size) (hk : i + k < j) : (sx s i j)[k]? = some (bt s (i + k) : Int) := by
  have hl := sx_len s (i := i) h
  have hz : (s.extract i j).size = j - i := by simp [ByteArray.size_extract]; omega
  have hk2 : k < (s.extract i j).size := by omega
  have e : (s.extract i j)[k]'hk2 = s[i + k]'(by omega) := by simp [ByteArray.getElem_extract]
  have e2 : ((sx s i j)[k]'(by omega)) = (((s.extract i j)[k]'hk2).toNat : Int) := by
    unfold sx
    rw [List.getElem_map, Array.getElem_toList]
    rfl
  rw [List.getElem?_eq_getElem (by omega), e2, e, bt_at]
theorem sx_self (s : ByteArray) (i : Nat) (h : i ≤ s.size) : sx s i i = [] := by
  apply List.eq_nil_of_length_eq_zero; rw [sx_len s h]; omega
theorem sx_cons (s : ByteArray) {i j : Nat} (hi : i < j) (h : j ≤ s.size) : sx s i j = (bt s i : Int) :: sx s (i + 1) j := by
  apply List.ext_getElem?
  intro k
  cases k with
  | zero => rw [sx_get s h (by omega)]; rfl
  | succ k =>
    rw [List.getElem?_cons_succ]
    by_cases hk : i + (k + 1) < j
    · rw [sx_get s h hk, sx_get s h (by omega)]; congr 2; congr 1; omega
    · rw [List.getElem?_eq_none (by rw [sx_len s h]; omega), List.getElem?_eq_none (by rw [sx_len s h]; omega)]
theorem sx_app (s : ByteArray) {i j k : Nat} (h1 : i ≤ j) (h2 : j ≤ k) (h : k ≤ s.size) : sx s i j ++ sx s j k = sx s i k := by
  obtain ⟨d, rfl⟩ := Nat.exists_eq_add_of_le h1
  clear h1
  induction d generalizing i with
  | zero => rw [Nat.add_zero, sx_self s i (by omega)]; rfl
  | succ d ih =>
    have e : i + 1 + d = i + (d + 1) := by omega
    have := ih (i := i + 1) (by omega)
    rw [e] at this
    rw [sx_cons s (i := i) (by omega) (by omega), sx_cons s (i := i) (j := k) (by omega) h, List.cons_append, this]
/-- One code point of generalized UTF-8 stands at place i, n bytes long. -/
def Cp (s : ByteArray) (i c n : Nat) : Prop :=
  (n = 1 ∧ i + 1 ≤ s.size ∧ c < 128 ∧ bt s i = c) ∨
  (n = 2 ∧ i + 2 ≤ s.size ∧ 128 ≤ c ∧ c < 2048 ∧ bt s i = 192 + c / 64 ∧ bt s (i + 1) = 128 + c % 64) ∨
  (n = 3 ∧ i + 3 ≤ s.size ∧ 2048 ≤ c ∧ c < 65536 ∧ bt s i = 224 + c / 4096 ∧ bt s (i + 1) = 128 + c / 64 % 64 ∧ bt s (i + 2) = 128 + c % 64) ∨
  (n = 4 ∧ i + 4 ≤ s.size ∧ 65536 ≤ c ∧ c ≤ 1114111 ∧ bt s i = 240 + c / 262144 ∧ bt s (i + 1) = 128 + c / 4096 % 64 ∧ bt s (i + 2) = 128 + c / 64 % 64 ∧ bt s (i + 3) = 128 + c % 64)
theorem Cp.n {s : ByteArray} {i c n : Nat} (h : Cp s i c n) : 1 ≤ n ∧ n ≤ 4 ∧ i + n ≤ s.size ∧ c ≤ 1114111 := by unfold Cp at h; omega
theorem Cp.uniq {s : ByteArray} {i c n c' n' : Nat} (h : Cp s i c n) (h' : Cp s i c' n') : c = c' ∧ n = n' := by unfold Cp at h h'; omega
/-- The bytes of a code point. -/
def eb (c : Nat) : List Int :=
  if c < 128 then [(c : Int)] else if c < 2048 then [192 + (c / 64 : Nat), 128 + (c % 64 : Nat)]
  else if c < 65536 then [224 + (c / 4096 : Nat), 128 + (c / 64 % 64 : Nat), 128 + (c % 64 : Nat)]
  else [240 + (c / 262144 : Nat), 128 + (c / 4096 % 64 : Nat), 128 + (c / 64 % 64 : Nat), 128 + (c % 64 : Nat)]
theorem Cp.raw {s : ByteArray} {i c n : Nat} (h : Cp s i c n) : sx s i (i + n) = eb c := by
  unfold Cp at h
  rcases h with ⟨rfl, h0, h1, h2⟩ | ⟨rfl, h0, h1, h2, h3, h4⟩ | ⟨rfl, h0, h1, h2, h3, h4, h5⟩ | ⟨rfl, h0, h1, h2, h3, h4, h5, h6⟩
  · rw [sx_cons s (by omega) h0, sx_self s _ h0, eb, if_pos h1, h2]
  · rw [sx_cons s (by omega) h0, sx_cons s (by omega) h0, sx_self s _ h0, eb, if_neg (by omega), if_pos h2, h3, h4]
    simp
  · rw [sx_cons s (by omega) h0, sx_cons s (by omega) h0, sx_cons s (by omega) h0, sx_self s _ h0, eb, if_neg (by omega), if_neg (by omega), if_pos h2, h3, h4, show i + 1 + 1 = i + 2 from rfl, h5]
    simp
  · rw [sx_cons s (by omega) h0, sx_cons s (by omega) h0, sx_cons s (by omega) h0, sx_cons s (by omega) h0, sx_self s _ h0, eb, if_neg (by omega), if_neg (by omega), if_neg (by omega), h3, h4, show i + 1 + 1 = i + 2 from rfl, show i + 2 + 1 = i + 3 from rfl, h5, h6]
    simp
/-- From place i on the text is these code points. -/
def Ch (s : ByteArray) : Nat → List Nat → Prop
  | i, [] => i = s.size
  | i, c :: r => ∃ n, Cp s i c n ∧ Ch s (i + n) r
theorem Ch.le {s : ByteArray} {i : Nat} {ds : List Nat} (h : Ch s i ds) : i ≤ s.size := by
  cases ds with
  | nil => exact Nat.le_of_eq h
  | cons c r => obtain ⟨n, h1, h2⟩ := h; have := h1.n; omega
theorem Ch.here {s : ByteArray} {i : Nat} {ds : List Nat} (h : Ch s i ds) (hi : i < s.size) : ∃ c r n, ds = c :: r ∧ Cp s i c n ∧ Ch s (i + n) r := by
  cases ds with
  | nil => have : i = s.size := h; omega
  | cons c r => obtain ⟨n, h1, h2⟩ := h; exact ⟨c, r, n, rfl, h1, h2⟩
theorem Ch.done {s : ByteArray} {i : Nat} {ds : List Nat} (h : Ch s i ds) (hi : ¬ i < s.size) : ds = [] := by
  cases ds with
  | nil => rfl
  | cons c r => obtain ⟨n, h1, h2⟩ := h; have := h1.n; omega
theorem Ch.raw {s : ByteArray} {i : Nat} {ds : List Nat} (h : Ch s i ds) : sx s i s.size = ds.flatMap eb := by
  induction ds generalizing i with
  | nil => have e : i = s.size := h; rw [e, sx_self s _ (by omega)]; rfl
  | cons c r ih =>
    obtain ⟨n, h1, h2⟩ := h
    have := h1.n
    rw [List.flatMap_cons, ← ih h2, ← h1.raw, sx_app s (by omega) (by omega) (by omega)]
/-- A code point seen through the rest of the text. -/
theorem Cp.ext {s : ByteArray} {i c n : Nat} (h : Cp s i c n) : Cp (s.extract i s.size) 0 c n := by
  have hz : (s.extract i s.size).size = s.size - i := by simp [ByteArray.size_extract]
  have hb : ∀ k, i + k < s.size → bt (s.extract i s.size) k = bt s (i + k) := fun k hk => by
    rw [← bt_at _ k (by omega), ← bt_at s (i + k) hk]
    simp [ByteArray.getElem_extract]
  unfold Cp at h ⊢
  rcases h with ⟨rfl, h0, h1, h2⟩ | ⟨rfl, h0, h1, h2, h3, h4⟩ | ⟨rfl, h0, h1, h2, h3, h4, h5⟩ | ⟨rfl, h0, h1, h2, h3, h4, h5, h6⟩
  · exact .inl ⟨rfl, by omega, h1, by rw [hb 0 (by omega)]; exact h2⟩
  · exact .inr (.inl ⟨rfl, by omega, h1, h2, by rw [hb 0 (by omega)]; exact h3, by rw [hb (0 + 1) (by omega)]; exact h4⟩)
  · exact .inr (.inr (.inl ⟨rfl, by omega, h1, h2, by rw [hb 0 (by omega)]; exact h3, by rw [hb (0 + 1) (by omega)]; exact h4, by rw [hb (0 + 2) (by omega)]; exact h5⟩))
  · exact .inr (.inr (.inr ⟨rfl, by omega, h1, h2, by rw [hb 0 (by omega)]; exact h3, by rw [hb (0 + 1) (by omega)]; exact h4, by rw [hb (0 + 2) (by omega)]; exact h5, by rw [hb (0 + 3) (by omega)]; exact h6⟩))
/-- Is c a high half, a low half? -/
def hiS (c : Nat) : Bool := decide (55296 ≤ c ∧ c ≤ 56319)
def loS (c : Nat) : Bool := decide (56320 ≤ c ∧ c ≤ 57343)
/-- No high half is followed by a low one; p: was the code point ahead a high half? -/
def np : Bool → List Nat → Prop
  | _, [] => True
  | p, c :: r => ¬ (p = true ∧ loS c = true) ∧ np (hiS c) r
def Wf (s : ByteArray) : Prop := ∃ L, Ch s 0 L ∧ np false L
/-- The quoting table. -/
def hx (d : Nat) : Int := if d < 10 then 48 + (d : Int) else 55 + (d : Int)
def hu (v : Nat) : List Int := [92, 117, hx (v / 4096 % 16), hx (v / 256 % 16), hx (v / 16 % 16), hx (v % 16)]
/-- Is c printed as it stands? -/
def cpw (a : Bool) (c : Int) : Bool := if c ≤ 126 then decide (32 ≤ c) && decide (c ≠ 92) && decide (c ≠ 34) else !a && decide (c ≠ 65279) && (decide (c < 55296) || decide (57343 < c))
def esc (a : Bool) (q : Nat) (c : Nat) : List Int :=
  if c = 92 then [92, 92] else if c = 34 then (if q = 34 then [92, 34] else [34]) else if c = 8 then [92, 98] else if c = 12 then [92, 102] else if c = 10 then [92, 110]
  else if c = 13 then [92, 114] else if c = 9 then [92, 116] else if c < 32 then hu c else if c < 127 then [(c : Int)]
  else if a = true ∨ c = 65279 ∨ (55296 ≤ c ∧ c ≤ 57343) then (if c ≤ 65535 then hu c else hu (55296 + (c - 65536) / 1024) ++ hu (56320 + (c - 65536) % 1024)) else eb c
theorem esc_raw {a : Bool} {q c : Nat} (h : cpw a (c : Int) = true) : esc a q c = eb c := by
  unfold cpw at h
  unfold esc
  split at h
  · simp at h
    obtain ⟨⟨h1, h2⟩, h3⟩ := h
    rw [if_neg (by omega), if_neg (by omega), if_neg (by omega), if_neg (by omega), if_neg (by omega), if_neg (by omega), if_neg (by omega), if_neg (by omega), if_pos (by omega), eb, if_pos (by omega)]
  · simp at h
    obtain ⟨⟨h1, h2⟩, h3⟩ := h
    rw [if_neg (by omega), if_neg (by omega), if_neg (by omega), if_neg (by omega), if_neg (by omega), if_neg (by omega), if_neg (by omega), if_neg (by omega), if_neg (by omega), if_neg]
    rintro (h | h | h)
    · simp [h] at h1
    · omega
    · omega
theorem eb_len (c : Nat) : (eb c).length ≤ 4 := by
  unfold eb
  repeat' split
  all_goals simp
theorem hu_len (c : Nat) : (hu c).length = 6 := rfl
theorem esc_len (a : Bool) (q c : Nat) : (esc a q c).length ≤ 12 := by
  have := eb_len c
  unfold esc
  repeat' split
  all_goals simp [hu_len]
  all_goals omega
theorem cpw_not {a : Bool} {c : Nat} (h : cpw a (c : Int) = false) : c = 92 ∨ c = 34 ∨ c < 32 ∨ (127 ≤ c ∧ (a = true ∨ c = 65279 ∨ (55296 ≤ c ∧ c ≤ 57343))) := by
  unfold cpw at h
  split at h
  · simp at h; omega
  · simp at h
    by_cases ha : a = true
    · exact .inr (.inr (.inr ⟨by omega, .inl ha⟩))
    · have := h (by simpa using ha); omega
theorem esc_def {a : Bool} {q c : Nat} (h : cpw a (c : Int) = false) (h1 : c ≠ 92) (h2 : c ≠ 34) (h3 : c ≠ 8) (h4 : c ≠ 12) (h5 : c ≠ 10) (h6 : c ≠ 13) (h7 : c ≠ 9) :
    esc a q c = if c ≤ 65535 then hu c else hu (55296 + (c - 65536) / 1024) ++ hu (56320 + (c - 65536) % 1024) := by
  have := cpw_not h
  unfold esc
  rw [if_neg h1, if_neg h2, if_neg h3, if_neg h4, if_neg h5, if_neg h6, if_neg h7]
  by_cases h8 : c < 32
  · rw [if_pos h8, if_pos (by omega)]
  · rw [if_neg h8, if_neg (by omega), if_pos (by rcases this with h | h | h | h; all_goals first | omega | exact h.2)]
/-- The whole: what is to stand between the quotes. -/
def ou (a : Bool) (q : Nat) (ds : List Nat) : List Int := ds.flatMap (esc a q)
theorem ou_len (a : Bool) (q : Nat) (ds : List Nat) : (ou a q ds).length ≤ 12 * ds.length := by
  unfold ou
  induction ds with
  | nil => simp
  | cons c r ih => rw [List.flatMap_cons, List.length_append, List.length_cons]; have := esc_len a q c; omega
theorem Ch.count {s : ByteArray} {i : Nat} {ds : List Nat} (h : Ch s i ds) : i + ds.length ≤ s.size := by
  induction ds generalizing i with
  | nil => have e : i = s.size := h; simp [e]
  | cons c r ih => obtain ⟨n, h1, h2⟩ := h; have := ih h2; have := h1.n; simp only [List.length_cons]; omega
end Go.Proofs.Ytojckppnooaiaaa.qp
