/-
  The children law: what its first loop builds.
-/
import Derived.Test.YbulkaiacSplitC
namespace Go.Proofs.Ybulkaiac
open Go.RowKit

/-- Behind k rounds of the building loop. B: the heap's size at the call. -/
structure Built (len k : Nat) (cnt : Nat → Int) (w wr : World) : Prop where
  below : Below w.heap.size w wr
  size : wr.heap.size = w.heap.size + 2 + k
  back : wr.rowIs w.heap.size 33 len (fun i => if i < k then ptr (w.heap.size + 2 + i) else .pointer none)
  orig : wr.rowIs (w.heap.size + 1) 33 len (fun i => if i < k then ptr (w.heap.size + 2 + i) else .pointer none)
  kids : ∀ i, i < k → wr.rowIs (w.heap.size + 2 + i) 36 3 (node nilS nilS (.int .i64 (cnt i)))

theorem made34 (len : Nat) (hl : len ≤ 1024) (W : World) :
    (Instr.makeSlice 34 (.int .i64 (len : Int)) (.int .i64 (len : Int))).run Yba.prog W = .ok (.slice (some ⟨W.heap.size, 0, none⟩) len len) (W.alloc (.cells (madeCells #[.pointer none] len) 33)) := by
  obtain ⟨i, hi, h1, h2, h3⟩ : ∃ i, Yba.prog.info? 33 = some i ∧ i.zero = some (.pointer none) ∧ i.size = 1 ∧ i.bytes = 8 := ⟨_, rfl, rfl, rfl, rfl⟩
  have h := run_make (P := Yba.prog) W 34 33 i (.pointer none) Yba.underlying34 hi h1 .i64 .i64 len len (by omega) (by omega) (by rw [h3]; omega) (by omega)
  rw [h2, show (Value.pointer none).cells = #[.pointer none] from rfl] at h
  simpa using h

theorem built_zero (len : Nat) (cnt : Nat → Int) (w : World) : Built len 0 cnt w ((w.alloc (.cells (madeCells #[.pointer none] len) 33)).alloc (.cells (madeCells #[.pointer none] len) 33)) := by
  refine ⟨((Below.refl _ _).alloc (Nat.le_refl _) _).alloc (by simp) _, by simp, ?_, ?_, fun i hi => by omega⟩
  · exact ((World.rowIs_made w (.pointer none) len 33).alloc _).congr fun i _ => by simp
  · have h := World.rowIs_made (w.alloc (.cells (madeCells #[.pointer none] len) 33)) (.pointer none) len 33
    simp only [World.size_alloc] at h
    exact h.congr fun i _ => by simp

theorem built_step {len k : Nat} {cnt : Nat → Int} {w wr : World} (h : Built len k cnt w wr) :
    Built len (k + 1) cnt w (((wr.setCell ⟨w.heap.size, k, none⟩ (ptr wr.heap.size)).setCell ⟨w.heap.size + 1, k, none⟩ (ptr wr.heap.size)).alloc (.cells #[nilS, nilS, .int .i64 (cnt k)] 36)) := by
  have hs := h.size
  have hb : Below w.heap.size w ((wr.setCell ⟨w.heap.size, k, none⟩ (ptr wr.heap.size)).setCell ⟨w.heap.size + 1, k, none⟩ (ptr wr.heap.size)) :=
    (h.below.setCell (Nat.le_refl _) _).setCell (by simp) _
  have hsz : ((wr.setCell ⟨w.heap.size, k, none⟩ (ptr wr.heap.size)).setCell ⟨w.heap.size + 1, k, none⟩ (ptr wr.heap.size)).heap.size = wr.heap.size := by simp [World.setCell]
  refine ⟨hb.alloc (by rw [hsz]; omega) _, ?_, ?_, ?_, fun i hi => ?_⟩
  · rw [World.size_alloc, hsz]; omega
  · refine (((h.back.set k _).setOther (by simp) _).alloc _).congr fun i hi => ?_
    by_cases e : i = k
    · subst e; simp [hs]
    · by_cases e2 : i < k
      · simp [e, e2, show i < k + 1 by omega]
      · simp [e, e2, show ¬ i < k + 1 by omega]
  · refine (((h.orig.setOther (by simp) _).set k _).alloc _).congr fun i hi => ?_
    by_cases e : i = k
    · subst e; simp [hs]
    · by_cases e2 : i < k
      · simp [e, e2, show i < k + 1 by omega]
      · simp [e, e2, show ¬ i < k + 1 by omega]
  · by_cases e : i = k
    · subst e
      have := World.rowIs_alloc ((wr.setCell ⟨w.heap.size, i, none⟩ (ptr wr.heap.size)).setCell ⟨w.heap.size + 1, i, none⟩ (ptr wr.heap.size)) #[nilS, nilS, .int .i64 (cnt i)] 36 (node nilS nilS (.int .i64 (cnt i))) (fun j hj => by
        simp at hj
        match j, hj with
        | 0, _ => rfl
        | 1, _ => rfl
        | 2, _ => rfl)
      rw [hsz] at this
      rw [← hs]
      exact this
    · exact (((h.kids i (by omega)).setOther (by simp; omega) _).setOther (by simp; omega) _).alloc _

theorem pre_of_built {len : Nat} {cnt : Nat → Int} {w wr : World} (h : Built len len cnt w wr) (total : Int) (hcnt : ∀ i, -(2147483648 : Int) ≤ cnt i ∧ cnt i ≤ 2147483647)
    (ht : -(8796093022208 : Int) ≤ total ∧ total ≤ 8796093022208) :
    SplitPre wr.heap.size w.heap.size len total (fun i => w.heap.size + 2 + i) cnt (wr.alloc (.cells #[nilS, .slice (some ⟨w.heap.size, 0, none⟩) len len, .int .i64 total] 36)) := by
  have hs := h.size
  refine ⟨by omega, ?_, ?_, fun i hi => (h.kids i hi).alloc _, fun i hi => ⟨by omega, by omega⟩, fun i => ⟨(hcnt i).1, by have := (hcnt i).2; omega⟩, ht⟩
  · exact World.rowIs_alloc wr #[nilS, .slice (some ⟨w.heap.size, 0, none⟩) len len, .int .i64 total] 36 _ (fun j hj => by
        simp at hj
        match j, hj with
        | 0, _ => rfl
        | 1, _ => rfl
        | 2, _ => rfl)
  · exact (h.back.alloc _).congr fun i hi => by simp [hi]

/-- What the last part of the law reads. -/
structure After (len : Nat) (x : Int) (cnt : Nat → Int) (N g cap : Nat) (w w2 : World) : Prop where
  below : Below w.heap.size w w2
  r0 : w2.cell? ⟨N + 1, 0, none⟩ = some (.slice none 0 0)
  r1 : w2.cell? ⟨N + 1, 1, none⟩ = some (.slice (some ⟨g, 0, none⟩) (len - len / 2) cap)
  r2 : w2.cell? ⟨N + 1, 2, none⟩ = some (.int .i64 (sumR cnt (len / 2) (len - len / 2)))
  n1 : w2.cell? ⟨N, 1, none⟩ = some (.slice (some ⟨w.heap.size, 0, none⟩) (len / 2) len)
  n2 : w2.cell? ⟨N, 2, none⟩ = some (.int .i64 (x + sumR cnt 0 (len / 2)))
  kept : ∀ i, i < len / 2 → w2.cell? ⟨w.heap.size, i, none⟩ = some (ptr (w.heap.size + 2 + i))
  gone : ∀ i, len / 2 ≤ i → i < len → w2.cell? ⟨w.heap.size, i, none⟩ = some (.pointer none)
  orig : ∀ i, i < len → w2.cell? ⟨w.heap.size + 1, i, none⟩ = some (ptr (w.heap.size + 2 + i))
  moved : ∀ i, len / 2 ≤ i → i < len → w2.cell? ⟨g, i - len / 2, none⟩ = some (ptr (w.heap.size + 2 + i))

theorem after_of {len : Nat} {cnt : Nat → Int} {w wr w2 : World} (h : Built len len cnt w wr) (x : Int) {g cap : Nat}
    (P : SplitPost wr.heap.size w.heap.size len (x + sumR cnt 0 len) (fun i => w.heap.size + 2 + i) cnt g cap (wr.alloc (.cells #[nilS, .slice (some ⟨w.heap.size, 0, none⟩) len len, .int .i64 (x + sumR cnt 0 len)] 36)) w2) :
    After len x cnt wr.heap.size g cap w w2 := by
  have hs := h.size
  have hR := P.hR
  rw [World.size_alloc] at hR
  have hsum : sumR cnt 0 len = sumR cnt 0 (len / 2) + sumR cnt (len / 2) (len - len / 2) := by
    have := sumR_add cnt 0 (len / 2) (len - len / 2)
    rw [Nat.zero_add, show len / 2 + (len - len / 2) = len by omega] at this
    exact this
  refine ⟨?_, hR.cell (i := 0) (by omega), hR.cell (i := 1) (by omega), hR.cell (i := 2) (by omega), P.hN.cell (i := 1) (by omega), ?_, fun i hi => ?_, fun i h1 h2 => ?_, fun i hi => ?_, fun i h1 h2 => ?_⟩
  · exact (h.below.alloc (by omega) _).trans (P.kept.toBelow (by omega) (Nat.le_refl _) (by simp; omega))
  · rw [P.hN.cell (i := 2) (by omega)]
    show some (Value.int .i64 _) = _
    rw [hsum]
    congr 2; omega
  · rw [P.hB.cell (by omega)]
    simp [hi]
  · rw [P.hB.cell h2]
    simp [show ¬ i < len / 2 by omega]
  · rw [(rowIs_kept (h.orig.alloc _) P.kept (by omega) (by omega)).cell hi]
    simp [hi]
  · rw [P.hG (i - len / 2) (by omega), show len / 2 + (i - len / 2) = i by omega]

end Go.Proofs.Ybulkaiac
