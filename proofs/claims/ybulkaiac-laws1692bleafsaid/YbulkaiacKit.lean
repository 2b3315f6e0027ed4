/-
  Small laws on worlds for this seat: a node of three cells; what is kept but for two blocks.
-/
import Derived.Test.YbulkaiacShelf
import Derived.Test.YbulkaiacRows
import Derived.Deep.OwnRows
import Derived.Lib.SmallJoins
import Derived.Lib.SliceRun
import Derived.WalkKit
import Derived.WalkSpells
import Derived.Below
namespace Go.Proofs.Ybulkaiac
open Go.RowKit

theorem hide {p : Prop} (h : p) : Hid p := h
abbrev nilS : Value := .slice none 0 0
abbrev ptr (b : Nat) : Value := .pointer (some ⟨b, 0, none⟩)
/-- The three cells of an arrayNode. -/
def node (e c n : Value) : Nat → Value
  | 0 => e
  | 1 => c
  | _ => n

/-- All that lay in w but for the blocks N and b stands in w' as it stood. -/
structure Kept2 (N b : Nat) (w w' : World) : Prop where
  os : w'.os = w.os
  tape : w'.tape = w.tape
  output : w'.output = w.output
  size : w.heap.size ≤ w'.heap.size
  block : ∀ k, k < w.heap.size → k ≠ N → k ≠ b → w'.heap[k]? = w.heap[k]?

theorem Kept2.refl (N b : Nat) (w : World) : Kept2 N b w w := ⟨rfl, rfl, rfl, Nat.le_refl _, fun _ _ _ _ => rfl⟩
theorem Kept2.below {N b : Nat} {w w1 w2 : World} (h : Kept2 N b w w1) (k : Below w1.heap.size w1 w2) : Kept2 N b w w2 :=
  ⟨k.os.trans h.os, k.tape.trans h.tape, k.output.trans h.output, Nat.le_trans h.size k.size, fun i hi h1 h2 => (k.block i (Nat.lt_of_lt_of_le hi h.size)).trans (h.block i hi h1 h2)⟩
theorem Kept2.alloc {N b : Nat} {w w1 : World} (h : Kept2 N b w w1) (o : Obj) : Kept2 N b w (w1.alloc o) :=
  h.below ((Below.refl _ _).alloc (Nat.le_refl _) o)
theorem Kept2.drew {N b : Nat} {w w1 : World} (h : Kept2 N b w w1) : Kept2 N b w w1.drew := ⟨h.os, h.tape, h.output, h.size, h.block⟩
theorem Kept2.setCell {N b : Nat} {w w1 : World} (h : Kept2 N b w w1) {a : Addr} (ha : a.block = N ∨ a.block = b ∨ w.heap.size ≤ a.block) (v : Value) : Kept2 N b w (w1.setCell a v) :=
  ⟨h.os, h.tape, h.output, by simpa [World.setCell] using h.size, fun k hk h1 h2 => by rw [Below.heap_setCell _ _ _ _ (by omega)]; exact h.block k hk h1 h2⟩
theorem Kept2.setCells {N b : Nat} {w : World} {g : Nat} (hg : g = N ∨ g = b ∨ w.heap.size ≤ g) : ∀ (vs : List Value) (o : Nat) (w1 : World), Kept2 N b w w1 → Kept2 N b w (w1.setCells g o vs)
  | [], _, _, h => h
  | v :: r, o, _, h => Kept2.setCells hg r (o + 1) _ (h.setCell (a := ⟨g, o, none⟩) hg v)
theorem Kept2.toBelow {N b B : Nat} {w w1 : World} (h : Kept2 N b w w1) (hN : B ≤ N) (hb : B ≤ b) (hB : B ≤ w.heap.size) : Below B w w1 :=
  ⟨h.os, h.tape, h.output, h.size, fun k hk => h.block k (by omega) (by omega) (by omega)⟩

theorem rowIs_below {w w' : World} {b n : Nat} {t : TypeId} {f : Nat → Value} (h : w.rowIs b t n f) (hb : Below w.heap.size w w') : w'.rowIs b t n f :=
  h.of_block (hb.block b h.lt)
theorem rowIs_kept {N c : Nat} {w w' : World} {b n : Nat} {t : TypeId} {f : Nat → Value} (h : w.rowIs b t n f) (hk : Kept2 N c w w') (h1 : b ≠ N) (h2 : b ≠ c) : w'.rowIs b t n f :=
  h.of_block (hk.block b h.lt h1 h2)

/-- 'cnt o + .. + cnt (o + k - 1)' -/
def sumR (cnt : Nat → Int) (o : Nat) : Nat → Int
  | 0 => 0
  | k + 1 => sumR cnt o k + cnt (o + k)

theorem sumR_bound (cnt : Nat → Int) (o M : Nat) (h : ∀ i, -(M : Int) ≤ cnt i ∧ cnt i ≤ M) : ∀ k, -((k * M : Nat) : Int) ≤ sumR cnt o k ∧ sumR cnt o k ≤ ((k * M : Nat) : Int)
  | 0 => by simp [sumR]
  | k + 1 => by
    have ih := sumR_bound cnt o M h k
    have hk := h (o + k)
    rw [sumR, Nat.succ_mul]
    omega

theorem sumR_add (cnt : Nat → Int) (o a : Nat) : ∀ k, sumR cnt o (a + k) = sumR cnt o a + sumR cnt (o + a) k
  | 0 => by simp [sumR]
  | k + 1 => by
    rw [← Nat.add_assoc, sumR, sumR_add cnt o a k, sumR, Nat.add_assoc o a k]
    omega

/-- What a fresh slice of the call's own holds, cell by cell. -/
theorem ownsRow_cells {w : World} {base size n : Nat} {e : TypeId} {v : Value} {xs : List Value} (h : w.ownsRow base e size v n xs) (hv : v ≠ .slice none 0 0) :
    ∃ g cap, v = .slice (some ⟨g, 0, none⟩) n cap ∧ base ≤ g ∧ g < w.heap.size ∧ n ≤ cap ∧ ∀ j u, xs[j]? = some u → w.cell? ⟨g, j, none⟩ = some u := by
  obtain ⟨hl, h2⟩ := h
  rcases h2 with ⟨rfl, _⟩ | ⟨g, cap, cur, rfl, hb, hg, hn, _, hs, ht⟩
  · exact absurd rfl hv
  · refine ⟨g, cap, rfl, hb, (Array.getElem?_eq_some_iff.1 hg).1, hn, fun j u hu => ?_⟩
    rw [Go.Joins.cell_of_block hg]
    rw [← ht, List.getElem?_take] at hu
    split at hu
    · simpa using hu
    · cases hu

end Go.Proofs.Ybulkaiac
