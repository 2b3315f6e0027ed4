/-
  Plain laws on lists of integers: a sorted list compacted rises strictly; where a key stands; a key taken out, a key put in.
-/
import Derived.Lib.SlicesCompact
namespace Go.Proofs.Ybulkaiaq
open Go.Lib

/-- Rising strictly. -/
def Rises (xs : List Int) : Prop := ∀ a b, a < b → b < xs.length → xs.getD a 0 < xs.getD b 0

theorem rises_of_pairwise {xs : List Int} (h : xs.Pairwise (· < ·)) : Rises xs := by
  intro a b hab hb
  rw [List.pairwise_iff_getElem] at h
  have := h a b (by omega) hb hab
  rw [List.getD_eq_getElem?_getD, List.getD_eq_getElem?_getD, List.getElem?_eq_getElem hb, List.getElem?_eq_getElem (by omega : a < xs.length)]
  exact this

theorem Rises.le {xs : List Int} (h : Rises xs) : ∀ a b, a ≤ b → b < xs.length → xs.getD a 0 ≤ xs.getD b 0 := by
  intro a b hab hb
  rcases Nat.lt_or_ge a b with hlt | hge
  · have := h a b hlt hb; omega
  · have : a = b := by omega
    subst this; omega

theorem compactUpTo_rises (d : Array Int) (hs : ∀ i j, i ≤ j → j < d.size → d[i]! ≤ d[j]!) : ∀ m, m ≤ d.size →
    (compactUpTo d m).Pairwise (· < ·) ∧ (0 < m → ∀ x ∈ compactUpTo d m, x ≤ d[m - 1]!)
  | 0, _ => by simp [compactUpTo]
  | m + 1, hm => by
    obtain ⟨ih1, ih2⟩ := compactUpTo_rises d hs m (by omega)
    rw [compactUpTo_succ]
    by_cases hk : keeps d m = true
    · rw [if_pos hk]
      have hlt : ∀ x ∈ compactUpTo d m, x < d[m]! := by
        intro x hx
        rcases Nat.eq_zero_or_pos m with h0 | h0
        · subst h0; simp [compactUpTo] at hx
        · have h1 := ih2 h0 x hx
          have h2 := hs (m - 1) m (by omega) (by omega)
          have h3 : d[m]! ≠ d[m - 1]! := by
            have := hk
            simp only [keeps, decide_eq_true_eq] at this
            rcases this with h | h
            · omega
            · exact h
          omega
      refine ⟨?_, fun _ x hx => ?_⟩
      · rw [List.pairwise_append]
        refine ⟨ih1, by simp, fun a ha b hb => ?_⟩
        simp at hb
        subst hb
        exact hlt a ha
      · rw [Nat.add_sub_cancel]
        rw [List.mem_append] at hx
        rcases hx with hx | hx
        · have := hlt x hx; omega
        · simp at hx; subst hx; omega
    · rw [if_neg hk, List.append_nil]
      refine ⟨ih1, fun _ x hx => ?_⟩
      rcases Nat.eq_zero_or_pos m with h0 | h0
      · subst h0; simp [compactUpTo] at hx
      · have h1 := ih2 h0 x hx
        have h2 := hs (m - 1) m (by omega) (by omega)
        rw [Nat.add_sub_cancel]
        omega

theorem sorted_get {zs : List Int} : ∀ i j, i ≤ j → j < (zs.mergeSort fun x y => decide (x ≤ y)).toArray.size → (zs.mergeSort fun x y => decide (x ≤ y)).toArray[i]! ≤ (zs.mergeSort fun x y => decide (x ≤ y)).toArray[j]! := by
  intro i j hij hj
  have hp : (zs.mergeSort fun x y => decide (x ≤ y)).Pairwise (fun x y => decide (x ≤ y) = true) :=
    List.pairwise_mergeSort (fun a b c h1 h2 => by simp at h1 h2 ⊢; omega) (fun a b => by simp; omega) zs
  generalize zs.mergeSort (fun x y => decide (x ≤ y)) = ys at hp hj ⊢
  rw [List.size_toArray] at hj
  rw [getElem!_pos _ i (by simp; omega), getElem!_pos _ j (by simpa using hj)]
  simp only [List.getElem_toArray]
  rcases Nat.lt_or_ge i j with hlt | hge
  · rw [List.pairwise_iff_getElem] at hp
    simpa using hp i j (by omega) hj hlt
  · have : i = j := by omega
    subst this; omega

theorem compact_sorted_rises (zs : List Int) : Rises (compact (zs.mergeSort fun x y => decide (x ≤ y))) := by
  apply rises_of_pairwise
  have := (compactUpTo_rises (zs.mergeSort fun x y => decide (x ≤ y)).toArray sorted_get (zs.mergeSort fun x y => decide (x ≤ y)).length (by simp)).1
  exact this

theorem compact_length (zs : List Int) : (compact zs).length ≤ zs.length := by
  unfold compact compactUpTo
  rw [List.length_map]
  exact Nat.le_trans (List.length_filter_le _ _) (by simp)
end Go.Proofs.Ybulkaiaq
