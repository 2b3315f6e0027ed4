/-
  The closure that 'forget' hands to DeleteFunc.
-/
import Derived.Test.YbulkahzaDoorItems
namespace Go.Proofs.YbulkahzaDoor
open Go.RowKit Go.Maps
set_option linter.unusedVariables false
attribute [local go_sem ↓ high] lv89

/-- The list 'above' as it lies: behind the block bA, and the store's pointer behind bS. -/
structure Abv (w : World) (p : Pl) (bA bS : Nat) (a0 : Option Addr) (g na cap : Nat) (xs : Nat → Nat) : Prop where
  cA : w.heap[bA]? = some (.cells #[.slice a0 na cap] 66 (0, 0))
  cS : w.heap[bS]? = some (.cells #[.pointer (some ⟨p.S, 0, none⟩)] 29 (0, 0))
  len : na ≤ 1024
  at0 : 0 < na → a0 = some ⟨g, 0, none⟩ ∧ ∃ cs t fr, w.heap[g]? = some (.cells cs t fr) ∧ g ≠ p.S
  row : ∀ i, i < na → w.cell? ⟨g, i, none⟩ = some (.int .u64 (xs i : Int))
  up : ∀ i j, i < j → j < na → xs i < xs j
  nA : bA ≠ p.S
  nS : bS ≠ p.S

def upTo (na : Nat) (xs : Nat → Nat) (e : Nat) : Prop := ∃ i, i < na ∧ xs i = e

/-- What the closure answers at item j. -/
def ClosPost (I : Its) (p : Pl) (et fo : Nat) (tv : Value) (d : Nat → Bool) (na : Nat) (xs : Nat → Nat) (j : Nat) (w : World) (x : Ending) (w' : World) : Prop :=
  ∃ f : Bool, x = .returned (.bool f) ∧ (f = true ↔ upTo na xs (I.e j)) ∧ St w' I p et fo tv (if f && (!d j && I.fe j == I.e j) then add d j else d) ∧ Frm w w' (fun b => b = p.S ∨ b = p.F)

set_option maxHeartbeats 2000000 in
set_option maxRecDepth 100000 in
theorem clos_step {I : Its} (hI : I.Ok) {p : Pl} {et fo : Nat} {tv : Value} {d : Nat → Bool} {w : World} (h : St w I p et fo tv d) {bA bS g na cap : Nat} {a0 : Option Addr} {xs : Nat → Nat} (hab : Abv w p bA bS a0 g na cap xs) {j : Nat} (hj : j < I.N) :
    Calls Ybad.prog 15 #[.agg (I.tb j), .pointer (some ⟨bA, 0, none⟩), .pointer (some ⟨bS, 0, none⟩)] w (ClosPost I p et fo tv d na xs j w) := by
  have H := hide h
  have HAB := hide hab
  have cA : w.cell? ⟨bA, 0, none⟩ = some (.slice a0 na cap) := by simp only [World.cell?, hab.cA]; rfl
  have cS : w.cell? ⟨bS, 0, none⟩ = some (.pointer (some ⟨p.S, 0, none⟩)) := by simp only [World.cell?, hab.cS]; rfl
  have hAl : bA < w.heap.size := (Array.getElem?_eq_some_iff.1 hab.cA).1
  have hSl : bS < w.heap.size := (Array.getElem?_eq_some_iff.1 hab.cS).1
  have hT : (w.alloc (.cells (I.tb j) 89)).heap[w.heap.size]? = some (.cells (I.tb j) 89 (0, 0)) := (MapKept.heap_alloc w _).1
  have hT1 : (w.alloc (.cells (I.tb j) 89)).cell? ⟨w.heap.size, 1, none⟩ = some (.int .u64 (I.e j : Int)) := by simp only [World.cell?, hT]; rfl
  have HT := hide hT
  clear h hab hT
  go_enter Ybad.func15, Ybad.ntmps15
  go_wp2_with fail
  refine (bin_any a0 g na cap (I.e j) xs (w.alloc (.cells (I.tb j) 89)) HAB.out.len (fun h0 => (HAB.out.at0 h0).1) (fun i hi => ?_) HAB.out.up).mono ?_
  · rw [World.cell?_alloc_lt _ _ _ (World.block_lt_of_cell? _ _ (HAB.out.row i hi))]; exact HAB.out.row i hi
  rintro x w1 ⟨pp, f, rfl, hf, rfl⟩
  have hB1 : Below w.heap.size w (w.alloc (.cells (I.tb j) 89)) := (Below.refl _ _).alloc (Nat.le_refl _) _
  have H1 := hide (H.out.below hB1)
  have hld := load89_at (w := w.alloc (.cells (I.tb j) 89)) (b := w.heap.size) (o := 0) (range_block HT.out)
  clear HT hT1
  have HF := hide hf
  have HB1 := hide hB1
  clear hf hB1 cA hAl
  have hx0 : ∀ a b : Value, ([a, b] : List Value)[0]? = some a := fun _ _ => rfl
  have hx1 : ∀ a b : Value, ([a, b] : List Value)[1]? = some b := fun _ _ => rfl
  cases f with
  | false =>
    go_wp2
    go_ret
    exact ⟨false, rfl, HF.out, H1.out, Frm.of_below HB1.out⟩
  | true =>
    have hcS1 : (w.alloc (.cells (I.tb j) 89)).cell? ⟨bS, 0, none⟩ = some (.pointer (some ⟨p.S, 0, none⟩)) := by rw [World.cell?_alloc_lt _ _ _ hSl]; exact cS
    have hT2 : Hid ((w.alloc (.cells (I.tb j) 89)).heap[w.heap.size]? = some (.cells (I.tb j) 89 (0, 0))) := (MapKept.heap_alloc w _).1
    cases hk : (!d j && I.fe j == I.e j) with
    | false =>
      go_wp2_with (go_at_call 12; refine (kept_step hI H1.out hj).mono ?_; rintro x w2 ⟨rfl, hB2⟩; rw [hk])
      go_ret
      refine ⟨true, rfl, ⟨fun _ => HF.out.1 trivial, fun _ => rfl⟩, ?_, (Frm.of_below HB1.out).trans (Frm.of_below (may := fun _ => False) hB2) (fun _ _ h => h.elim)⟩
      rw [hk]
      exact H1.out.below hB2
    | true =>
      go_wp2_with (first
        | (go_at_call 12; refine (kept_step hI H1.out hj).mono ?_; rintro x w2 ⟨rfl, hB2⟩; rw [hk]; have c2 : w2.cell? ⟨bS, 0, none⟩ = some (.pointer (some ⟨p.S, 0, none⟩)) := (hB2.cell (p := ⟨bS, 0, none⟩) (World.block_lt_of_cell? _ _ hcS1)).trans hcS1; have hl2 := load89_at (w := w2) (b := w.heap.size) (o := 0) (range_block ((hB2.block w.heap.size (by simp)).trans hT2.out)); have HB2 := hide hB2; clear hB2)
        | (go_at_call 13; refine (drop_step hI (H1.out.below HB2.out) hj).mono ?_; rintro x w3 ⟨rfl, h3, hf3⟩; have H3 := hide h3; have HF3 := hide hf3; clear h3 hf3))
      go_ret
      refine ⟨true, rfl, ⟨fun _ => HF.out.1 trivial, fun _ => rfl⟩, ?_, ((Frm.of_below (may := fun b => b = p.S ∨ b = p.F) HB1.out).trans (Frm.of_below (may := fun _ => False) HB2.out) (fun _ _ h => h.elim)).trans HF3.out (fun _ _ h => h)⟩
      rw [hk]
      exact H3.out
end Go.Proofs.YbulkahzaDoor
