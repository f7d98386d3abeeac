/-
  THE PLAIN FUNCTIONS of the seat: the parent of a path, the nearest held one above it. No Go in sight.
-/
import GoSem.Core.Value
import Derived.Lib.Strings
namespace Go.Proofs.Qxb6612745a
namespace Pl

/-- The byte at k (0 behind the end). -/
def at' (s : ByteArray) (k : Nat) : UInt8 := s.data.toList.getD k 0

/-- The last slash among the first k bytes; -1: none. -/
def lix (s : ByteArray) : Nat → Int
  | 0 => -1
  | k + 1 => if (at' s k).toNat = 47 then (k : Int) else lix s k

theorem lix_range (s : ByteArray) : ∀ k, -1 ≤ lix s k ∧ lix s k < k
  | 0 => by simp [lix]
  | k + 1 => by
    have := lix_range s k
    unfold lix
    split <;> omega

/-- The parent's path. -/
def par (s : ByteArray) : ByteArray := if 0 ≤ lix s s.size then s.extract 0 (lix s s.size).toNat else ⟨#[]⟩

theorem par_size (s : ByteArray) (h : 0 < s.size) : (par s).size < s.size := by
  have := lix_range s s.size
  unfold par
  split
  · rw [ByteArray.size_extract]; omega
  · exact h

/-- The nearest path above s that is held ('held'), and whether there is one. -/
def abv (held : ByteArray → Bool) : Nat → ByteArray → ByteArray × Bool
  | 0, _ => (⟨#[]⟩, false)
  | n + 1, s => if s.size = 0 then (⟨#[]⟩, false) else if held (par s) then (par s, true) else abv held n (par s)

theorem abv_fuel (held : ByteArray → Bool) : ∀ (n m : Nat) (s : ByteArray), s.size ≤ n → s.size ≤ m → abv held n s = abv held m s
  | 0, 0, _, _, _ => rfl
  | 0, m + 1, s, h, _ => by simp [abv, show s.size = 0 by omega]
  | n + 1, 0, s, _, h => by simp [abv, show s.size = 0 by omega]
  | n + 1, m + 1, s, h1, h2 => by
    unfold abv
    by_cases h0 : s.size = 0
    · simp [h0]
    · have := par_size s (by omega)
      simp only [h0, if_false]
      rw [abv_fuel held n m (par s) (by omega) (by omega)]

def above (held : ByteArray → Bool) (s : ByteArray) : ByteArray × Bool := abv held s.size s

theorem above_empty (held : ByteArray → Bool) (s : ByteArray) (h : s.size = 0) : above held s = (⟨#[]⟩, false) := by
  unfold above; rw [h]; rfl

theorem above_step (held : ByteArray → Bool) (s : ByteArray) (h : 0 < s.size) : above held s = if held (par s) then (par s, true) else above held (par s) := by
  have hp := par_size s h
  unfold above
  obtain ⟨n, hn⟩ : ∃ n, s.size = n + 1 := ⟨s.size - 1, by omega⟩
  rw [hn]
  show (if s.size = 0 then _ else _) = _
  rw [if_neg (by omega), abv_fuel held n (par s).size (par s) (by omega) (Nat.le_refl _)]

end Pl
end Go.Proofs.Qxb6612745a
