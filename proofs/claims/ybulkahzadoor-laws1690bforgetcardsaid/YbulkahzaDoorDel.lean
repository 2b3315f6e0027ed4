/-
  'slices.DeleteFunc' at the tombstones, with that closure.
-/
import Derived.Test.YbulkahzaDoorDelP
namespace Go.Proofs.YbulkahzaDoor
open Go.RowKit Go.Maps
set_option linter.unusedVariables false
attribute [local go_sem ↓ high] lv89 sv89

theorem cells_setCell {w : World} {B : Nat} (h : ∃ cs t fr, w.heap[B]? = some (Obj.cells cs t fr)) (a : Addr) (v : Value) : ∃ cs t fr, (w.setCell a v).heap[B]? = some (Obj.cells cs t fr) := by
  obtain ⟨cs, t, fr, h⟩ := h
  by_cases e : B = a.block
  · subst e
    simp only [World.setCell, Array.getElem?_modify, h]
    simp
  · exact ⟨cs, t, fr, by rw [Below.heap_setCell _ _ _ _ e]; exact h⟩
theorem cells_setCells {B g : Nat} : ∀ (vs : List Value) (o : Nat) (w : World), (∃ cs t fr, w.heap[B]? = some (Obj.cells cs t fr)) → ∃ cs t fr, (w.setCells g o vs).heap[B]? = some (Obj.cells cs t fr)
  | [], _, _, h => h
  | v :: r, o, w, h => cells_setCells r (o + 1) (w.setCell ⟨g, o, none⟩ v) (cells_setCell h _ _)
theorem Frm.setCells {w : World} {may : Nat → Prop} {g : Nat} (ha : g < w.heap.size → may g) : ∀ (vs : List Value) (o : Nat) (w' : World), Frm w w' may → Frm w (w'.setCells g o vs) may
  | [], _, _, h => h
  | v :: r, o, w', h => Frm.setCells ha r (o + 1) (w'.setCell ⟨g, o, none⟩ v) (h.setCell _ _ ha)

/-- The rows in the middle of DeleteFunc: the first hold ks, those from m on hold T. -/
structure Mid3 (w : World) (I : Its) (p : Pl) (B o len m : Nat) (ks : List Nat) (T : Nat → Nat) : Prop where
  ne : B ≠ p.S
  blk : ∃ cs t fr, w.heap[B]? = some (.cells cs t fr)
  there : w.there B o (len * 23)
  front : ∀ r (h : r < ks.length), w.rangeAt B (o + r * 23) (I.tb ks[r]).toList
  back : ∀ q, m ≤ q → q < len → w.rangeAt B (o + q * 23) (I.tb (T q)).toList

theorem Mid3.of_block {w w' : World} {I : Its} {p : Pl} {B o len m : Nat} {ks : List Nat} {T : Nat → Nat} (h : Mid3 w I p B o len m ks T) (hb : w'.heap[B]? = w.heap[B]?) : Mid3 w' I p B o len m ks T := by
  obtain ⟨cs, t, fr, hc⟩ := h.blk
  exact ⟨h.ne, ⟨cs, t, fr, hb.trans hc⟩, fun j hj => ⟨by rw [World.cell?_of_block hb]; exact (h.there j hj).1, by rw [World.frozen?_of_block hb]; exact (h.there j hj).2⟩,
    fun r hr j v hv => by rw [World.cell?_of_block hb]; exact h.front r hr j v hv, fun q h1 h2 j v hv => by rw [World.cell?_of_block hb]; exact h.back q h1 h2 j v hv⟩

theorem Mid3.frm {w w' : World} {I : Its} {p : Pl} {et fo : Nat} {tv : Value} {d : Nat → Bool} (hst : St w I p et fo tv d) {B o len m : Nat} {ks : List Nat} {T : Nat → Nat} (h : Mid3 w I p B o len m ks T) (hf : Frm w w' (fun b => b = p.S ∨ b = p.F)) : Mid3 w' I p B o len m ks T := by
  obtain ⟨cs, t, fr, hc⟩ := h.blk
  exact h.of_block (hf.block B (Array.getElem?_eq_some_iff.1 hc).1 (fun e => e.elim h.ne (cells_ne_F hst hc)))

/-- The row at m is listed: it is passed over. -/
theorem Mid3.pass {w : World} {I : Its} {p : Pl} {B o len m : Nat} {ks : List Nat} {T : Nat → Nat} (h : Mid3 w I p B o len m ks T) : Mid3 w I p B o len (m + 1) ks T := ⟨h.ne, h.blk, h.there, h.front, fun q h1 h2 => h.back q (by omega) h2⟩

/-- A row that stays is laid at the front's end. -/
theorem Mid3.put {w : World} {I : Its} {p : Pl} {B o len m : Nat} {ks : List Nat} {T : Nat → Nat} (h : Mid3 w I p B o len m ks T) (hk : ks.length ≤ m) (hm : m < len) (j : Nat) :
    (bigStore 89 ⟨B, o + ks.length * 23, none⟩ (.agg (I.tb j))).run Ybad.prog w = .ok () (w.setCells B (o + ks.length * 23) (I.tb j).toList) ∧ Mid3 (w.setCells B (o + ks.length * 23) (I.tb j).toList) I p B o len (m + 1) (ks ++ [j]) T := by
  have hth : w.there B (o + ks.length * 23) (I.tb j).size := fun q hq => by
    have hq' : q < 23 := hq
    have := h.there (ks.length * 23 + q) (by omega)
    rw [← Nat.add_assoc] at this
    exact this
  refine ⟨run_storeVar_mid w B _ 89 (I.tb j) hth (by kernel_rfl) (by simp [Value.oneCell']), h.ne, ?_, World.there_setCells h.there _ _ _, ?_, ?_⟩
  · exact cells_setCells _ _ _ h.blk
  · intro r hr
    by_cases e : r < ks.length
    · rw [List.getElem_append_left e]
      exact World.rangeAt_setCells_apart (h.front r e) _ _ _ (.inr (.inl (by show o + r * 23 + 23 ≤ _; omega)))
    · have e2 : r = ks.length := by simp at hr; omega
      subst e2
      have e3 : (ks ++ [j])[ks.length] = j := by simp
      rw [e3]
      exact World.rangeAt_setCells_same _ _ _ _ hth
  · intro q h1 h2
    exact World.rangeAt_setCells_apart (h.back q (by omega) h2) _ _ _ (.inr (.inr (by show _ + 23 ≤ _; omega)))

end Go.Proofs.YbulkahzaDoor
