/-
  PLAIN: the order of ids: shorter first, then by bytes. No walk.
-/
import Derived.Test.YbulkalpgRows
import Derived.WalkKit
import Derived.WalkSpells
import Derived.WalkLawsBesides
import Derived.Lib.Bytealg
namespace Go.Proofs.Ybulkalpg
open Go.RowKit

/-- zzs1865bless. -/
def lessB (a b : ByteArray) : Bool := if a.size = b.size then Op.bytesLess a.toList b.toList else decide (a.size < b.size)

/-- The first k ids rise. -/
def ordB (s : Nat → ByteArray) : Nat → Bool
  | 0 => true
  | 1 => true
  | k + 2 => ordB s (k + 1) && lessB (s k) (s (k + 1))
theorem ordB_succ (s : Nat → ByteArray) (k : Nat) (h : 1 ≤ k) : ordB s (k + 1) = (ordB s k && lessB (s (k - 1)) (s k)) := by
  obtain ⟨j, rfl⟩ : ∃ j, k = j + 1 := ⟨k - 1, by omega⟩
  rfl
theorem ordB_le (s : Nat → ByteArray) (k n : Nat) (h : k ≤ n) (hf : ordB s k = false) : ordB s n = false := by
  induction n with
  | zero =>
    obtain rfl : k = 0 := by omega
    exact hf
  | succ n ih =>
    by_cases hk : k = n + 1
    · rw [← hk]; exact hf
    · have := ih (by omega)
      by_cases h1 : 1 ≤ n
      · rw [ordB_succ s n h1, this]; rfl
      · obtain rfl : n = 0 := by omega
        simp [ordB] at this

theorem less_cmp : ∀ a b : List UInt8, Op.bytesLess a b = decide (Lib.compareBytes a b < 0)
  | [], [] => rfl
  | [], _ :: _ => rfl
  | _ :: _, [] => rfl
  | x :: a, y :: b => by
    unfold Op.bytesLess Lib.compareBytes
    by_cases h : x < y
    · simp [h]
    · by_cases h' : y < x
      · have hne : (x == y) = false := by
          simp only [beq_eq_false_iff_ne]
          intro e; subst e; exact UInt8.lt_irrefl x h'
        simp [h, h', hne]
      · have e : x = y := UInt8.le_antisymm (UInt8.not_lt.1 h') (UInt8.not_lt.1 h)
        subst e
        simp [h, less_cmp a b]
end Go.Proofs.Ybulkalpg
