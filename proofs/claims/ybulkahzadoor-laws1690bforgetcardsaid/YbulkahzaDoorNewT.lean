/-
  A tombstone made with its vector, in whatever order the map and the variable are made.
-/
import Derived.Test.YbulkahzaDoorBld
namespace Go.Proofs.YbulkahzaDoor
open Go.RowKit Go.Maps
set_option linter.unusedVariables false

structure Fin3 (W wf : World) (b T : Nat) (nd nm : ByteArray) (m e : Nat) : Prop where
  bel : Below W.heap.size W wf
  vec : Vec wf 0 (.map (some b)) (single nd m)
  tomb : wf.heap[T]? = some (.cells (tombC nm e (some b)) 89 (0, 0))
  lt : W.heap.size ≤ b

theorem put_single {w : World} {b : Nat} {nd : ByteArray} {m : Nat} (h : Vec w 0 (.map (some b)) (fun _ => 0)) (hs : nd.size ≤ maxLen) (h0 : 0 < m) (hm : m < 18446744073709551616) (hk : kS nd = kA ∨ kS nd = kB) :
    ∃ w', (Instr.mapUpdate 63 (.map (some b)) (.string nd) (.int .u64 (m : Int))).run Ybad.prog w = .ok () w' ∧ Vec w' 0 (.map (some b)) (single nd m) ∧ w.grownBy w' (some b) ∧ w'.heap.size = w.heap.size :=
  h.put nd hs m h0 hm (hk.elim .inl (fun h => .inr (.inl h)))

theorem newT1 (W : World) (nd nm : ByteArray) (m e : Nat) (hs : nd.size ≤ maxLen) (h0 : 0 < m) (hm : m < 18446744073709551616) (hk : kS nd = kA ∨ kS nd = kB) :
    ∃ w2, (Instr.mapUpdate 63 (.map (some W.heap.size)) (.string nd) (.int .u64 (m : Int))).run Ybad.prog (W.alloc (.map #[] 0)).drew = .ok () w2 ∧ Below W.heap.size W w2 ∧
      (bigStore 89 ⟨w2.heap.size, 0, none⟩ (.agg (tombC nm e (some W.heap.size)))).run Ybad.prog (w2.alloc (.cells zTomb 89)) = .ok () (w2.alloc (.cells (tombC nm e (some W.heap.size)) 89)) ∧ Fin3 W (w2.alloc (.cells (tombC nm e (some W.heap.size)) 89)) W.heap.size w2.heap.size nd nm m e := by
  have h : Vec (W.alloc (.map #[] 0)).drew 0 (.map (some W.heap.size)) (fun _ => 0) := ⟨sup_zero, .inr ⟨_, _, rfl, Nat.zero_le _, ((World.ownsMap_made W _ _ _).mono (by omega)).drew, holds_empty⟩⟩
  obtain ⟨w2, hr, hv, hg, hz⟩ := put_single h hs h0 hm hk
  have h1 : Below W.heap.size W (W.alloc (.map #[] 0)).drew := ((Below.refl _ _).alloc (Nat.le_refl _) _).drew
  have h2 : Below W.heap.size (W.alloc (.map #[] 0)).drew w2 := ⟨hg.os, hg.tape, hg.output, hg.size, fun k hk => hg.block k (Nat.lt_of_lt_of_le hk h1.size) (fun e => by have := Option.some.inj e; omega)⟩
  refine ⟨w2, hr, h1.trans h2, storeTomb w2 nm e _, ?_, ?_, (MapKept.heap_alloc w2 _).1, Nat.le_refl _⟩
  · have h3 := h1.trans h2
    exact h3.alloc (Nat.le_trans h1.size h2.size) _
  · exact hv.of_block (fun b hb _ hl => (MapKept.heap_alloc w2 _).2 b hl)

theorem newT2 (W : World) (nd nm : ByteArray) (m e : Nat) (hs : nd.size ≤ maxLen) (h0 : 0 < m) (hm : m < 18446744073709551616) (hk : kS nd = kA ∨ kS nd = kB) :
    ∃ w3 w3', (Instr.mapUpdate 63 (.map (some W.heap.size)) (.string nd) (.int .u64 (m : Int))).run Ybad.prog ((W.alloc (.map #[] 0)).alloc (.cells zTomb 89)).drew = .ok () w3 ∧ Below W.heap.size W w3 ∧
      (bigStore 89 ⟨W.heap.size + 1, 0, none⟩ (.agg (tombC nm e (some W.heap.size)))).run Ybad.prog w3 = .ok () w3' ∧ Fin3 W w3' W.heap.size (W.heap.size + 1) nd nm m e := by
  have h : Vec ((W.alloc (.map #[] 0)).alloc (.cells zTomb 89)).drew 0 (.map (some W.heap.size)) (fun _ => 0) := ⟨sup_zero, .inr ⟨_, _, rfl, Nat.zero_le _, ((((World.ownsMap_made W _ _ _).mono (by omega)).alloc _).drew : _), holds_empty⟩⟩
  obtain ⟨w3, hr, hv, hg, hz⟩ := put_single h hs h0 hm hk
  have h1 : Below W.heap.size W ((W.alloc (.map #[] 0)).alloc (.cells zTomb 89)).drew := (((Below.refl _ _).alloc (Nat.le_refl _) _).alloc (by simp) _).drew
  have hz0 : ((W.alloc (.map #[] 0)).alloc (.cells zTomb 89)).drew.heap.size = W.heap.size + 1 + 1 := by simp [World.drew]
  have hT : ((W.alloc (.map #[] 0)).alloc (.cells zTomb 89)).drew.heap[W.heap.size + 1]? = some (.cells zTomb 89 (0, 0)) := by
    have := (MapKept.heap_alloc (W.alloc (.map #[] 0)) (.cells zTomb 89)).1
    rw [World.size_alloc] at this
    exact this
  have hT3 : w3.heap[W.heap.size + 1]? = some (.cells zTomb 89 (0, 0)) := (hg.block _ (by rw [hz0]; omega) (fun e => by have := Option.some.inj e; omega)).trans hT
  obtain ⟨w3', hst, ht, hf⟩ := storeT hT3 nm e (some W.heap.size)
  have h2 : Below W.heap.size ((W.alloc (.map #[] 0)).alloc (.cells zTomb 89)).drew w3 := ⟨hg.os, hg.tape, hg.output, hg.size, fun k hk => hg.block k (Nat.lt_of_lt_of_le hk h1.size) (fun e => by have := Option.some.inj e; omega)⟩
  refine ⟨w3, w3', hr, h1.trans h2, hst, ?_, hf.vec hv (fun b hb e => ?_), ht, Nat.le_refl _⟩
  · exact bel_frm (h1.trans h2) hf (Nat.le_succ _)
  · cases hb; omega

theorem newT3 (W : World) (nd nm : ByteArray) (m e : Nat) (hs : nd.size ≤ maxLen) (h0 : 0 < m) (hm : m < 18446744073709551616) (hk : kS nd = kA ∨ kS nd = kB) :
    ∃ w4 w4', (Instr.mapUpdate 63 (.map (some (W.heap.size + 1))) (.string nd) (.int .u64 (m : Int))).run Ybad.prog ((W.alloc (.cells zTomb 89)).alloc (.map #[] 0)).drew = .ok () w4 ∧ Below W.heap.size W w4 ∧
      (bigStore 89 ⟨W.heap.size, 0, none⟩ (.agg (tombC nm e (some (W.heap.size + 1))))).run Ybad.prog w4 = .ok () w4' ∧ Fin3 W w4' (W.heap.size + 1) W.heap.size nd nm m e := by
  have h : Vec ((W.alloc (.cells zTomb 89)).alloc (.map #[] 0)).drew 0 (.map (some (W.heap.size + 1))) (fun _ => 0) := by
    have := World.ownsMap_made (W.alloc (.cells zTomb 89)) Ybad.prog 9 pU
    rw [World.size_alloc] at this
    exact ⟨sup_zero, .inr ⟨_, _, rfl, Nat.zero_le _, (this.mono (by omega)).drew, holds_empty⟩⟩
  obtain ⟨w4, hr, hv, hg, hz⟩ := put_single h hs h0 hm hk
  have h1 : Below W.heap.size W ((W.alloc (.cells zTomb 89)).alloc (.map #[] 0)).drew := (((Below.refl _ _).alloc (Nat.le_refl _) _).alloc (by simp) _).drew
  have hz0 : ((W.alloc (.cells zTomb 89)).alloc (.map #[] 0)).drew.heap.size = W.heap.size + 1 + 1 := by simp [World.drew]
  have hT : ((W.alloc (.cells zTomb 89)).alloc (.map #[] 0)).drew.heap[W.heap.size]? = some (.cells zTomb 89 (0, 0)) := by
    show ((W.alloc (.cells zTomb 89)).alloc (.map #[] 0)).heap[W.heap.size]? = _
    rw [(MapKept.heap_alloc _ _).2 _ (by simp)]; exact (MapKept.heap_alloc W _).1
  have hT3 : w4.heap[W.heap.size]? = some (.cells zTomb 89 (0, 0)) := (hg.block _ (by rw [hz0]; omega) (fun e => by have := Option.some.inj e; omega)).trans hT
  obtain ⟨w4', hst, ht, hf⟩ := storeT hT3 nm e (some (W.heap.size + 1))
  have h2 : Below W.heap.size ((W.alloc (.cells zTomb 89)).alloc (.map #[] 0)).drew w4 := ⟨hg.os, hg.tape, hg.output, hg.size, fun k hk => hg.block k (Nat.lt_of_lt_of_le hk h1.size) (fun e => by have := Option.some.inj e; omega)⟩
  refine ⟨w4, w4', hr, h1.trans h2, hst, ?_, hf.vec hv (fun b hb e => ?_), ht, Nat.le_succ _⟩
  · exact bel_frm (h1.trans h2) hf (Nat.le_refl _)
  · cases hb; omega
end Go.Proofs.YbulkahzaDoor
