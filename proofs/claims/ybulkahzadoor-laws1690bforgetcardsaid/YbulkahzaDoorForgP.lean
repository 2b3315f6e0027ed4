/-
  Plain parts for 'forget': who is dropped and who is kept among the first k items.
-/
import Derived.Test.YbulkahzaDoorDelW
namespace Go.Proofs.YbulkahzaDoor
open Go.RowKit Go.Maps
set_option linter.unusedVariables false

/-- Dropped among the first k items, all at or below 'through': its name's latest change, no conflict. -/
def dk (I : Its) (cf : Nat → Bool) : Nat → (Nat → Bool)
  | 0 => fun _ => false
  | k + 1 => if I.fe k == I.e k && !cf k then add (dk I cf k) k else dk I cf k
/-- Kept among them: its name's latest change, in conflict. -/
def kl (I : Its) (cf : Nat → Bool) : Nat → List Nat
  | 0 => []
  | k + 1 => if I.fe k == I.e k && cf k then kl I cf k ++ [k] else kl I cf k

theorem dk_lt (I : Its) (cf : Nat → Bool) : ∀ k i, dk I cf k i = true → i < k
  | 0, i, h => by simp [dk] at h
  | k + 1, i, h => by
    unfold dk at h
    split at h
    · simp only [add, Bool.or_eq_true, beq_iff_eq] at h
      rcases h with h | h
      · have := dk_lt I cf k i h; omega
      · omega
    · have := dk_lt I cf k i h; omega
theorem dk_self (I : Its) (cf : Nat → Bool) (k : Nat) : dk I cf k k = false := by
  cases h : dk I cf k k
  · rfl
  · have := dk_lt I cf k k h; omega
theorem kl_le (I : Its) (cf : Nat → Bool) : ∀ k, (kl I cf k).length ≤ k
  | 0 => Nat.le_refl _
  | k + 1 => by
    have := kl_le I cf k
    unfold kl
    split
    · simp; omega
    · omega
end Go.Proofs.YbulkahzaDoor
