/-
  The wait group counted down from m: k Dones have been made; a token is pending exactly when k = m.
-/
import Derived.Test.YtchmlhlpchbnoaaWg
namespace Go.Proofs.Ytchmlhlpchbnoaa.wg
open Go.ChangeShapes Go.WideShapes Go.ChangeAt Go.RowKit Go.Conc

def LG (w0 w : World) (b c m k : Nat) : Prop := WG w0 w b c ((m : Int) - k) (if k = m then 1 else 0)
def LGd (w0 : World) (b c m k : Nat) (e : Ending) (w : World) : Prop := e = .returned (.tuple #[]) ∧ LG w0 w b c m k

theorem add_lg (w0 w : World) (b c m : Nat) (h : WG w0 w b c 0 0) (hm : m ≤ 65536) :
    Calls Try.prog 8 #[.pointer (some ⟨b, 0, none⟩), .int .i32 m] w (LGd w0 b c m 0) := by
  by_cases h0 : m = 0
  · subst h0
    refine (add_wg0 w0 w b c 0 _ h (by omega)).mono ?_
    rintro e w' ⟨rfl, h2⟩
    exact ⟨rfl, by simpa [LG] using h2⟩
  · refine (add_wg w0 w b c 0 m h (by omega) (by omega)).mono ?_
    rintro e w' ⟨rfl, h2⟩
    exact ⟨rfl, by unfold LG; rw [if_neg (by omega)]; simpa using h2⟩

theorem done_lg (w0 w : World) (b c m k : Nat) (h : LG w0 w b c m k) (hk : k < m) (hm : m ≤ 65536) :
    Calls Try.prog 11 #[.pointer (some ⟨b, 0, none⟩)] w (LGd w0 b c m (k + 1)) := by
  unfold LG at h
  rw [if_neg (by omega)] at h
  by_cases h1 : k + 1 = m
  · have e1 : (m : Int) - k = 1 := by omega
    rw [e1] at h
    refine (done_wg0 w0 w b c h).mono ?_
    rintro e w' ⟨rfl, h2⟩
    refine ⟨rfl, ?_⟩
    have e2 : (m : Int) - ((k + 1 : Nat) : Int) = 0 := by omega
    unfold LG
    rw [if_pos h1, e2]
    exact h2
  · refine (done_wg w0 w b c _ h (by omega) (by omega)).mono ?_
    rintro e w' ⟨rfl, h2⟩
    refine ⟨rfl, ?_⟩
    have e2 : (m : Int) - ((k + 1 : Nat) : Int) = (m : Int) - k - 1 := by omega
    unfold LG
    rw [if_neg h1, e2]
    exact h2

theorem LG.full {w0 w : World} {b c m : Nat} (h : LG w0 w b c m m) : WG w0 w b c 0 1 := by
  unfold LG at h
  rw [if_pos rfl, Int.sub_self] at h
  exact h
theorem LG.below {w0 w : World} {b c m k : Nat} (h : LG w0 w b c m k) : Below w0.heap.size w0 w := h.2.2.2.2.2
theorem LG.more {w0 w : World} {b c m k : Nat} (h : LG w0 w b c m k) (hk : k < m) : WG w0 w b c ((m : Int) - k) 0 := by
  unfold LG at h
  rw [if_neg (by omega)] at h
  exact h
end Go.Proofs.Ytchmlhlpchbnoaa.wg
