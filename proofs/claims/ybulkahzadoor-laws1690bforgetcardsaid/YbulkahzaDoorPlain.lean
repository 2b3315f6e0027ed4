/-
  Plain: who is dropped and who stays, in one formula.
-/
import Derived.Test.YbulkahzaDoorForgP
namespace Go.Proofs.YbulkahzaDoor
open Go.RowKit Go.Maps
set_option linter.unusedVariables false

theorem dk_eq (I : Its) (cf : Nat → Bool) (i : Nat) : ∀ k, dk I cf k i = (decide (i < k) && (I.fe i == I.e i && !cf i))
  | 0 => by simp [dk]
  | k + 1 => by
    have ih := dk_eq I cf i k
    unfold dk
    by_cases e : i = k
    · subst e
      cases h : (I.fe i == I.e i && !cf i)
      · rw [if_neg (by simp), ih, h]; simp
      · rw [if_pos rfl]; simp [add]
    · have h1 : decide (i < k + 1) = decide (i < k) := by
        rw [decide_eq_decide]; omega
      rw [h1, ← ih]
      split
      · simp [add, e]
      · rfl

theorem kl_eq (I : Its) (cf : Nat → Bool) : ∀ k, kl I cf k = (List.range k).filter (fun i => I.fe i == I.e i && cf i)
  | 0 => rfl
  | k + 1 => by
    have ih := kl_eq I cf k
    unfold kl
    rw [List.range_succ, List.filter_append, ← ih]
    cases h : (I.fe k == I.e k && cf k)
    · rw [if_neg (by simp)]; simp [h]
    · rw [if_pos rfl]; simp [h]

theorem kp_eq (I : Its) (na : Nat) (xs T : Nat → Nat) : ∀ j, kp I na xs T j = ((List.range j).map T).filter (fun i => !lst na xs (I.e i))
  | 0 => rfl
  | j + 1 => by
    have ih := kp_eq I na xs T j
    unfold kp
    rw [List.range_succ, List.map_append, List.filter_append, ← ih]
    cases h : lst na xs (I.e (T j))
    · rw [if_neg (by simp)]; simp [h]
    · rw [if_pos rfl]; simp [h]

theorem dd_eq (I : Its) (na : Nat) (xs : Nat → Nat) (n : Nat) (d : Nat → Bool) (hd : ∀ q, d (n + q) = false) (i : Nat) : ∀ j, dd I na xs (fun q => n + q) d j i = (d i || (decide (n ≤ i ∧ i < n + j) && (lst na xs (I.e i) && I.fe i == I.e i)))
  | 0 => by
    have : ¬ (n ≤ i ∧ i < n + 0) := by omega
    simp only [dd, this, decide_false, Bool.false_and, Bool.or_false]
  | j + 1 => by
    have ih := dd_eq I na xs n d hd i j
    have ij := dd_eq I na xs n d hd (n + j) j
    have hj : dd I na xs (fun q => n + q) d j (n + j) = false := by
      rw [ij, hd]
      have : ¬ (n ≤ n + j ∧ n + j < n + j) := by omega
      simp only [this, decide_false, Bool.false_and, Bool.or_false]
    unfold dd
    simp only [hj, Bool.not_false, Bool.true_and]
    by_cases e : i = n + j
    · subst e
      have h2 : (n ≤ n + j ∧ n + j < n + (j + 1)) := by omega
      rw [hd]
      cases h : (lst na xs (I.e (n + j)) && I.fe (n + j) == I.e (n + j))
      · rw [if_neg (by simp), hj]; simp
      · rw [if_pos rfl]; simp [add]
    · have h1 : decide (n ≤ i ∧ i < n + (j + 1)) = decide (n ≤ i ∧ i < n + j) := by
        rw [decide_eq_decide]; omega
      rw [h1, ← ih]
      split
      · simp [add, e]
      · rfl

/-- Who is dropped. -/
def drp (I : Its) (cf : Nat → Bool) (na : Nat) (xs : Nat → Nat) (th : Nat) (i : Nat) : Bool :=
  if I.e i ≤ th then I.fe i == I.e i && !cf i else lst na xs (I.e i) && I.fe i == I.e i
/-- Who stays among the tombstones. -/
def sty (I : Its) (cf : Nat → Bool) (na : Nat) (xs : Nat → Nat) (th : Nat) (i : Nat) : Bool :=
  if I.e i ≤ th then I.fe i == I.e i && cf i else !lst na xs (I.e i)

theorem drp_eq (I : Its) (hI : I.Ok) (cf : Nat → Bool) (na : Nat) (xs : Nat → Nat) (th n : Nat) (hn : n ≤ I.N) (h1 : ∀ q, q < n → I.e q ≤ th) (h2 : n < I.N → th < I.e n) (i : Nat) (hi : i < I.N) :
    dd I na xs (fun q => n + q) (dk I cf n) (I.N - n) i = drp I cf na xs th i := by
  have hz : ∀ q, dk I cf n (n + q) = false := fun q => by
    have : ¬ n + q < n := by omega
    rw [dk_eq]; simp [this]
  rw [dd_eq I na xs n (dk I cf n) hz, dk_eq]
  unfold drp
  by_cases h : i < n
  · rw [if_pos (h1 i h)]
    have : ¬ (n ≤ i ∧ i < n + (I.N - n)) := by omega
    simp only [this, h, decide_true, decide_false, Bool.true_and, Bool.false_and, Bool.or_false]
  · have hlt : th < I.e i := by
      have h3 := h2 (by omega)
      by_cases e : i = n
      · subst e; exact h3
      · have := hI.rise n i (by omega) hi; omega
    rw [if_neg (by omega)]
    have : n ≤ i ∧ i < n + (I.N - n) := by omega
    simp only [this, h, and_self, decide_true, decide_false, Bool.true_and, Bool.false_and, Bool.false_or]

theorem sty_eq (I : Its) (hI : I.Ok) (cf : Nat → Bool) (na : Nat) (xs : Nat → Nat) (th n : Nat) (hn : n ≤ I.N) (h1 : ∀ q, q < n → I.e q ≤ th) (h2 : n < I.N → th < I.e n) :
    kl I cf n ++ kp I na xs (fun q => n + q) (I.N - n) = (List.range I.N).filter (sty I cf na xs th) := by
  have hs : List.range I.N = List.range n ++ (List.range (I.N - n)).map (fun q => n + q) := by
    conv => lhs; rw [show I.N = n + (I.N - n) by omega]
    exact List.range_add
  rw [hs, List.filter_append, kl_eq, kp_eq]
  congr 1
  · apply List.filter_congr
    intro i hi
    have hi := List.mem_range.1 hi
    unfold sty
    rw [if_pos (h1 i hi)]
  · apply List.filter_congr
    intro i hi
    obtain ⟨q, hq, rfl⟩ := List.mem_map.1 hi
    have hq := List.mem_range.1 hq
    have hlt : th < I.e (n + q) := by
      have h3 := h2 (by omega)
      by_cases e : q = 0
      · subst e; exact h3
      · have := hI.rise n (n + q) (by omega) (by omega); omega
    unfold sty
    rw [if_neg (by omega)]
end Go.Proofs.YbulkahzaDoor
