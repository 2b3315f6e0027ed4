/-
  A variable that is made and then filled whole.
-/
import Derived.Test.YbulkahzaDoorBig
namespace Go.Proofs.YbulkahzaDoor
open Go.RowKit Go.Maps
set_option linter.unusedVariables false

/-- A list laid over an array from i on. -/
def lay (c : Array Value) (i : Nat) : List Value → Array Value
  | [] => c
  | v :: r => lay (c.setIfInBounds i v) (i + 1) r

theorem lay_get : ∀ (l : List Value) (c : Array Value) (i j : Nat), (lay c i l)[j]? = if i ≤ j ∧ j < i + l.length ∧ j < c.size then l[j - i]? else c[j]?
  | [], c, i, j => by
    rw [if_neg (by simp; omega)]; rfl
  | v :: r, c, i, j => by
    show (lay (c.setIfInBounds i v) (i + 1) r)[j]? = _
    rw [lay_get r (c.setIfInBounds i v) (i + 1) j]
    simp only [Array.size_setIfInBounds, List.length_cons]
    by_cases h : i + 1 ≤ j ∧ j < i + 1 + r.length ∧ j < c.size
    · rw [if_pos h, if_pos (by omega), show j - i = (j - (i + 1)) + 1 by omega, List.getElem?_cons_succ]
    · rw [if_neg h, Array.getElem?_setIfInBounds]
      by_cases e : i = j
      · subst e
        by_cases hs : i < c.size
        · simp [hs]
        · simp [hs]
      · rw [if_neg e, if_neg (by omega)]

theorem lay_all (zs cs : Array Value) (h : zs.size = cs.size) : lay zs 0 cs.toList = cs := by
  apply Array.ext_getElem?
  intro j
  rw [lay_get, Nat.sub_zero, Array.getElem?_toList]
  by_cases hj : j < cs.size
  · rw [if_pos (by simp; omega)]
  · rw [if_neg (by omega), Array.getElem?_eq_none (by omega), Array.getElem?_eq_none (by omega)]

theorem setCells_alloc (w : World) (t : TypeId) : ∀ (l : List Value) (c : Array Value) (i : Nat), (w.alloc (.cells c t)).setCells w.heap.size i l = w.alloc (.cells (lay c i l) t)
  | [], c, i => rfl
  | v :: r, c, i => by
    show ((w.alloc (.cells c t)).setCell ⟨w.heap.size, i, none⟩ v).setCells w.heap.size (i + 1) r = _
    rw [World.setCell_alloc_at c t w.heap.size i v rfl, setCells_alloc w t r]
    rfl

theorem storeNew (w : World) (t : TypeId) (zs cs : Array Value) (hz : zs.size = cs.size) (h1 : cs.all (·.oneCell') = true) (hi : (Ybad.prog.info? t).map (·.size) = some cs.size) :
    (storeVar t ⟨w.heap.size, 0, none⟩ (.agg cs)).run Ybad.prog (w.alloc (.cells zs t)) = .ok () (w.alloc (.cells cs t)) := by
  have ht : (w.alloc (.cells zs t)).there w.heap.size 0 cs.size := fun j hj => by
    rw [Nat.zero_add, World.cell?_alloc_new]
    refine ⟨by simp; omega, ?_⟩
    unfold World.frozen?
    rw [(MapKept.heap_alloc w _).1]
    simp
  rw [run_storeVar_mid _ _ _ _ _ ht hi h1, setCells_alloc, lay_all zs cs hz]

/-- The cells of a tombstone that says nothing yet. -/
abbrev zTomb : Array Value := #[.string eS, .int .u64 0, .int .i64 0, .slice none 0 0, .string eS, .int .u64 0, .string eS, .int .u64 0, .map none, .int .i64 0, .slice none 0 0, .int .i64 0, .int .i64 0, .int .u64 0, .map none, .string eS, .int .u64 0, .string eS, .string eS, .int .u64 0, .int .u64 0, .int .i64 0, .pointer none]

theorem storeTomb (w : World) (nm : ByteArray) (e : Nat) (mA : Option Nat) : (bigStore 89 ⟨w.heap.size, 0, none⟩ (.agg (tombC nm e mA))).run Ybad.prog (w.alloc (.cells zTomb 89)) = .ok () (w.alloc (.cells (tombC nm e mA) 89)) :=
  storeNew w 89 zTomb (tombC nm e mA) rfl (by simp [Value.oneCell']) (by kernel_rfl)
theorem storeConf (w : World) (nm : ByteArray) : (bigStore 93 ⟨w.heap.size, 0, none⟩ (.agg (confC nm))).run Ybad.prog (w.alloc (.cells (confC eS) 93)) = .ok () (w.alloc (.cells (confC nm) 93)) :=
  storeNew w 93 (confC eS) (confC nm) rfl (by simp [Value.oneCell']) (by kernel_rfl)
end Go.Proofs.YbulkahzaDoor
