/-
  Plain parts for 'slices.DeleteFunc' at the tombstones: who is left, who is dropped; clear; a store into the row.
-/
import Derived.Test.YbulkahzaDoorIndex
namespace Go.Proofs.YbulkahzaDoor
open Go.RowKit Go.Maps
set_option linter.unusedVariables false

/-- Is e among the first na of xs? -/
def lst (na : Nat) (xs : Nat → Nat) (e : Nat) : Bool := (List.range na).any (fun i => xs i == e)
theorem lst_iff (na : Nat) (xs : Nat → Nat) (e : Nat) : lst na xs e = true ↔ upTo na xs e := by
  simp [lst, upTo]

/-- The items of the first j rows that are not listed. -/
def kp (I : Its) (na : Nat) (xs : Nat → Nat) (T : Nat → Nat) : Nat → List Nat
  | 0 => []
  | j + 1 => if lst na xs (I.e (T j)) then kp I na xs T j else kp I na xs T j ++ [T j]
/-- Who is dropped behind the first j rows. -/
def dd (I : Its) (na : Nat) (xs : Nat → Nat) (T : Nat → Nat) (d : Nat → Bool) : Nat → (Nat → Bool)
  | 0 => d
  | j + 1 => if lst na xs (I.e (T j)) && (!(dd I na xs T d j) (T j) && I.fe (T j) == I.e (T j)) then add (dd I na xs T d j) (T j) else dd I na xs T d j

theorem kp_le (I : Its) (na : Nat) (xs T : Nat → Nat) : ∀ j, (kp I na xs T j).length ≤ j
  | 0 => Nat.le_refl _
  | j + 1 => by
    have := kp_le I na xs T j
    unfold kp
    split
    · omega
    · simp; omega

/-- While none is listed. -/
theorem kp_all (I : Its) (na : Nat) (xs T : Nat → Nat) : ∀ j, (∀ q, q < j → ¬ upTo na xs (I.e (T q))) → kp I na xs T j = (List.range j).map T
  | 0, _ => rfl
  | j + 1, h => by
    have h1 : ¬ lst na xs (I.e (T j)) = true := fun e => h j (by omega) ((lst_iff _ _ _).1 e)
    unfold kp
    rw [if_neg h1, kp_all I na xs T j (fun q hq => h q (by omega)), List.range_succ, List.map_append]
    rfl
theorem dd_none (I : Its) (na : Nat) (xs T : Nat → Nat) (d : Nat → Bool) : ∀ j, (∀ q, q < j → ¬ upTo na xs (I.e (T q))) → dd I na xs T d j = d
  | 0, _ => rfl
  | j + 1, h => by
    have h1 : lst na xs (I.e (T j)) = false := by
      cases hh : lst na xs (I.e (T j))
      · rfl
      · exact absurd ((lst_iff _ _ _).1 hh) (h j (by omega))
    unfold dd
    rw [h1]
    exact dd_none I na xs T d j (fun q hq => h q (by omega))

theorem zero89 (w : World) : (zeroValue 89).run Ybad.prog w = .ok (.agg zTomb) w := by kernel_rfl

theorem zTomb_one : ∀ k, k < 23 → (zTomb[k]!).oneCell' = true := by
  intro k hk
  have : (zTomb.toList.all (·.oneCell')) = true := by simp [Value.oneCell']
  rw [List.all_eq_true] at this
  have hs : k < zTomb.size := hk
  rw [getElem!_pos zTomb k hs]
  exact this _ (by simp)

theorem clear61 (w : World) (B o n c : Nat) (hn : 0 < n) (ht : w.there B o (n * 23)) (ty : TypeId) :
    (Builtin.clear_ #[61] ty #[.slice (some ⟨B, o, none⟩) n c]).run Ybad.prog w = .ok (.tuple #[]) (w.setCells B o (Builtin.zeroCells zTomb n).toList) := by
  have hlen : (Builtin.zeroCells zTomb n).toList.length = n * 23 := by simp [Builtin.zeroCells]
  have hst := run_storeCells_cells (P := Ybad.prog) B o (Builtin.zeroCells zTomb n).toList 0 w (fun j hj => by rw [Nat.add_zero]; exact (ht j (by omega)).1) (fun j hj => by rw [Nat.add_zero]; exact (ht j (by omega)).2)
    (fun v hv => by
      simp only [Builtin.zeroCells, Array.toList_map, Array.toList_range, List.mem_map, List.mem_range] at hv
      obtain ⟨a, _, rfl⟩ := hv
      exact zTomb_one _ (Nat.mod_lt _ (by decide)))
  simp only [Nat.add_zero] at hst
  obtain ⟨m, rfl⟩ : ∃ m, n = m + 1 := ⟨n - 1, by omega⟩
  have hcs : (Value.agg zTomb).cells = zTomb := rfl
  simp only [Builtin.clear_, List.getElem?_toArray, List.getElem?_cons_zero, Sem.run_bind, run_underlying Ybad.underlying61, Result.andThen_ok, zero89, hcs, hst, Sem.run_pure]

end Go.Proofs.YbulkahzaDoor
