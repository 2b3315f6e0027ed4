/-
  '(*keyList).remove'.
-/
import Derived.Test.YbulkaiaqBuild
import Derived.Deep.RegionLaw
import Derived.Shelf.Spec.SlicesInsert
import Derived.RegionTactic
import Derived.BigRegion
import Derived.ChangeAlike
namespace Go.Proofs.Ybulkaiaq
open Go.RowKit
set_option linter.unusedVariables false

/-- All that lay in w but for the blocks N and b stands in w' as it stood. -/
structure Kept2 (N b : Nat) (w w' : World) : Prop where
  os : w'.os = w.os
  tape : w'.tape = w.tape
  output : w'.output = w.output
  size : w.heap.size ≤ w'.heap.size
  block : ∀ k, k < w.heap.size → k ≠ N → k ≠ b → w'.heap[k]? = w.heap[k]?

theorem Kept2.refl (N b : Nat) (w : World) : Kept2 N b w w := ⟨rfl, rfl, rfl, Nat.le_refl _, fun _ _ _ _ => rfl⟩
theorem Kept2.trans {N b : Nat} {w w1 w2 : World} (h : Kept2 N b w w1) (k : Kept2 N b w1 w2) : Kept2 N b w w2 :=
  ⟨k.os.trans h.os, k.tape.trans h.tape, k.output.trans h.output, Nat.le_trans h.size k.size, fun i hi h1 h2 => (k.block i (Nat.lt_of_lt_of_le hi h.size) h1 h2).trans (h.block i hi h1 h2)⟩
theorem Kept2.of_below (N b : Nat) {w w1 : World} (k : Below w.heap.size w w1) : Kept2 N b w w1 :=
  ⟨k.os, k.tape, k.output, k.size, fun i hi _ _ => k.block i hi⟩
theorem Kept2.drew {N b : Nat} {w w1 : World} (h : Kept2 N b w w1) : Kept2 N b w w1.drew := ⟨h.os, h.tape, h.output, h.size, h.block⟩
theorem Kept2.setCell {N b : Nat} {w w1 : World} (h : Kept2 N b w w1) {a : Addr} (ha : a.block = N ∨ a.block = b) (v : Value) : Kept2 N b w (w1.setCell a v) :=
  ⟨h.os, h.tape, h.output, by simpa [World.setCell] using h.size, fun k hk h1 h2 => by rw [Below.heap_setCell _ _ _ _ (by omega)]; exact h.block k hk h1 h2⟩
theorem Kept2.setRow {N b : Nat} {w w1 : World} (h : Kept2 N b w w1) {g : Nat} (hg : g = N ∨ g = b) (c : Array Value) : Kept2 N b w (w1.setRow g c) :=
  ⟨h.os, h.tape, h.output, by simpa [World.setRow] using h.size, fun k hk h1 h2 => by rw [setRow_other _ _ _ _ (by omega)]; exact h.block k hk h1 h2⟩
theorem Kept2.toBelow {N b B : Nat} {w w1 : World} (h : Kept2 N b w w1) (hN : B ≤ N) (hb : B ≤ b) (hB : B ≤ w.heap.size) : Below B w w1 :=
  ⟨h.os, h.tape, h.output, h.size, fun k hk => h.block k (by omega) (by omega) (by omega)⟩

/-- Block N is a keyList (type 28): one cell. -/
def At (w : World) (N : Nat) (v : Value) : Prop := w.heap[N]? = some (.cells #[v] 28 (0, 0))
theorem At.cell {w : World} {N : Nat} {v : Value} (h : At w N v) : w.cell? ⟨N, 0, none⟩ = some v := by
  rw [Go.Joins.cell_of_block h]; rfl
theorem At.frozen {w : World} {N : Nat} {v : Value} (h : At w N v) : w.frozen? ⟨N, 0, none⟩ = false := Go.Joins.unfrozen_of_block h 0
theorem At.lt {w : World} {N : Nat} {v : Value} (h : At w N v) : N < w.heap.size := (Array.getElem?_eq_some_iff.1 h).1
theorem At.set {w : World} {N : Nat} {v : Value} (h : At w N v) (u : Value) : At (w.setCell ⟨N, 0, none⟩ u) N u := Go.Joins.block_setCell h u
theorem At.other {w : World} {N : Nat} {v : Value} (h : At w N v) {a : Addr} (ha : N ≠ a.block) (u : Value) : At (w.setCell a u) N v := (Below.heap_setCell w a u N ha).trans h
theorem At.below {w w' : World} {N : Nat} {v : Value} (h : At w N v) (hb : Below w.heap.size w w') : At w' N v := (hb.block N h.lt).trans h
theorem At.row {w : World} {N g : Nat} {v : Value} (h : At w N v) (hg : N ≠ g) (c : Array Value) : At (w.setRow g c) N v := (setRow_other _ _ _ _ hg).trans h

theorem Own.set {w : World} {g cap : Nat} {xs : List Int} (h : Own w g cap xs) (j : Nat) (z : Int) : Own (w.setCell ⟨g, j, none⟩ (I z)) g cap (xs.set j z) := by
  obtain ⟨cur, hg, hl, hm, hs, ht⟩ := h
  refine ⟨cur.setIfInBounds j (I z), Go.Joins.block_setCell hg _, by simpa using hl, hm, by simpa using hs, ?_⟩
  rw [Array.toList_setIfInBounds, List.length_set, List.take_set, ht, List.map_set]

theorem Own.splice {w : World} {g cap : Nat} {xs : List Int} (h : Own w g cap xs) (i : Nat) (cs : List Int) (hi : i + cs.length ≤ xs.length) :
    ∃ c' : Array Value, (∀ (dT sT ty : TypeId) (dLen dCap sLen sCap : Nat) (a : Addr), dT = 24 → cs.length = Nat.min sLen dLen → (∀ j v, (cs.map I)[j]? = some v → w.cell? (a.add j) = some v) →
        (Builtin.copy_ #[dT, sT] ty #[.slice (some ⟨g, i, none⟩) dLen dCap, .slice (some a) sLen sCap]).run Yba.prog w = .ok (goInt cs.length) (w.setRow g c')) ∧
      Own (w.setRow g c') g cap (xs.take i ++ cs ++ xs.drop (i + cs.length)) := by
  obtain ⟨cur, hg, hl, hm, hs, ht⟩ := h
  refine ⟨(cur.toList.take i ++ cs.map I ++ cur.toList.drop (i + (cs.map I).length)).toArray, fun dT sT ty dLen dCap sLen sCap a hd hn hsrc => ?_, ?_⟩
  · subst hd
    have := run_copy_row (P := Yba.prog) w 24 sT ty 26 g i dLen dCap a sLen sCap cur 26 (cs.map I) Yba.underlying24 (by kernel_rfl) hg (by simpa using hn) hsrc (by simp; omega) (by intro v hv; simp at hv; obtain ⟨z, _, rfl⟩ := hv; rfl)
    simpa using this
  · refine ⟨_, setRow_heap w g _ _ 26 _ hg, by simp; omega, hm, by simp [hs]; omega, ?_⟩
    have e1 : cur.toList.take i = (xs.take i).map I := by
      have := congrArg (List.take i) ht
      rw [List.take_take, Nat.min_eq_left (by omega), ← List.map_take] at this
      exact this
    have e2 : (cur.toList.drop (i + cs.length)).take (xs.length - (i + cs.length)) = (xs.drop (i + cs.length)).map I := by
      have := congrArg (List.drop (i + cs.length)) ht
      rw [List.drop_take, ← List.map_drop] at this
      exact this
    have hlen : (xs.take i ++ cs ++ xs.drop (i + cs.length)).length = (xs.take i).length + cs.length + (xs.length - (i + cs.length)) := by simp; omega
    rw [List.toList_toArray, hlen, List.length_map, List.map_append, List.map_append, ← e1, ← e2]
    have hl1 : (cur.toList.take i ++ cs.map I).length = (xs.take i).length + cs.length := by rw [e1]; simp
    rw [← hl1, List.take_append, List.take_of_length_le (l := cur.toList.take i ++ cs.map I) (by omega), Nat.add_sub_cancel_left, List.append_assoc]
theorem addr_plain (b o j : Nat) : (⟨b, o, none⟩ : Addr).add j = ⟨b, o + j, none⟩ := by
  unfold Addr.add
  split
  · rename_i h; subst h; rfl
  · rfl

/-- 'keys[l:]' -/
theorem slice_from (g n cap l : Nat) (z : Int) (hz : z = l) (hl : l ≤ n) (hn : n ≤ cap) : ∃ sa, (l < cap → sa = some ⟨g, l, none⟩) ∧
    ∀ W, (Instr.sliceAt 24 (.slice (some ⟨g, 0, none⟩) n cap) (some (.int .i64 z)) none none).run Yba.prog W = .ok (.slice sa (n - l) (cap - l)) W := by
  subst hz
  refine ⟨if cap = l then some ⟨g, 0, none⟩ else some ⟨g, l, none⟩, fun h => if_neg (by omega), fun W => ?_⟩
  have hT := Yba.underlying24
  have he : Yba.prog.elem 24 = 26 := by simp [Program.elem, hT]
  rw [run_sliceAt_slice W 24 _ _ _ _ (by rw [he]; exact hT), run_slice_l W 24 (some ⟨g, 0, none⟩) n cap (by rw [he]; exact hT) .i64 (l : Int) (by omega) (by omega), he, Yba.sizeOf26]
  simp only [Result.andThen, sliced, Int.toNat_natCast, Nat.mul_one, Option.map_some, addr_plain, Nat.zero_add]

/-- What the copy leaves: the keys behind place i one place ahead; the last stands twice. -/
theorem copy_down {w : World} {N g cap m i : Nat} {xs : List Int} (hm : xs.length = m + 1) (hi : i ≤ m) (hO : Own w g cap xs) (sa : Option Addr) (hsa : i + 1 < cap → sa = some ⟨g, i + 1, none⟩) (v : Value) (hA : At w N v) (hNg : N ≠ g) :
    ∃ w5, (∀ ty, (Builtin.copy_ #[24, 24] ty #[.slice (some ⟨g, i, none⟩) (m + 1 - i) (cap - i), .slice sa (m - i) (cap - (i + 1))]).run Yba.prog w = .ok (goInt (m - i : Nat)) w5) ∧
      Own w5 g cap (xs.take i ++ xs.drop (i + 1) ++ xs.drop m) ∧ At w5 N v ∧ Kept2 N g w w5 := by
  by_cases h0 : i = m
  · subst h0
    refine ⟨w, fun ty => ?_, ?_, hA, Kept2.refl _ _ _⟩
    · have := run_copy_none (P := Yba.prog) w 24 24 ty 26 (some ⟨g, i, none⟩) sa (i + 1 - i) (cap - i) (i - i) (cap - (i + 1)) Yba.underlying24 (by kernel_rfl) (by simp)
      simpa using this
    · have : xs.take i ++ xs.drop (i + 1) ++ xs.drop i = xs := by
        rw [List.drop_of_length_le (by omega), List.append_nil, List.take_append_drop]
      rw [this]; exact hO
  · have hcap := hO.le
    obtain rfl := hsa (by omega)
    have hlen : (xs.drop (i + 1)).length = m - i := by simp [hm]
    obtain ⟨c', hrun, hO5⟩ := hO.splice i (xs.drop (i + 1)) (by omega)
    refine ⟨w.setRow g c', fun ty => ?_, ?_, hA.row hNg _, (Kept2.refl _ _ _).setRow (Or.inr rfl) _⟩
    · have := hrun 24 24 ty (m + 1 - i) (cap - i) (m - i) (cap - (i + 1)) ⟨g, i + 1, none⟩ rfl (by rw [hlen]; show _ = min _ _; omega) (fun j v hv => by
        rw [List.map_drop, List.getElem?_drop, List.getElem?_map, Option.map_eq_some_iff] at hv
        obtain ⟨z, hz, rfl⟩ := hv
        have hlt := (List.getElem?_eq_some_iff.1 hz).1
        rw [addr_plain, hO.cell hlt, List.getD_eq_getElem?_getD, hz]
        rfl)
      rw [hlen] at this
      exact this
    · rw [hlen, show i + (m - i) = m by omega] at hO5
      exact hO5

theorem set_last {xs : List Int} {m i : Nat} (hm : xs.length = m + 1) (hi : i ≤ m) : (xs.take i ++ xs.drop (i + 1) ++ xs.drop m).set m 0 = xs.take i ++ xs.drop (i + 1) ++ [0] := by
  have h1 : (xs.take i ++ xs.drop (i + 1)).length = m := by simp; omega
  obtain ⟨z, hz⟩ : ∃ z, xs.drop m = [z] := by
    have : (xs.drop m).length = 1 := by simp; omega
    exact List.length_eq_one_iff.1 this
  rw [hz, List.set_append_right _ _ (by omega), h1, Nat.sub_self]
  rfl

set_option maxHeartbeats 2000000 in
set_option maxRecDepth 100000 in
theorem remove_any (N g cap m i : Nat) (xs : List Int) (k : Int) (w : World) (hm : xs.length = m + 1) (hm2 : m ≤ 1024) (hpos : pos xs k = i) (him : i ≤ m) (hs : ∀ a b, a ≤ b → b < xs.length → xs.getD a 0 ≤ xs.getD b 0)
    (hO : Own w g cap xs) (hA : At w N (.slice (some ⟨g, 0, none⟩) (m + 1) cap)) (hNg : N ≠ g) :
    Calls Yba.prog 6 #[.pointer (some ⟨N, 0, none⟩), I k] w fun e w' => e = .returned (.tuple #[]) ∧ At w' N (.slice (some ⟨g, 0, none⟩) m cap) ∧ Own w' g cap (xs.take i ++ xs.drop (i + 1) ++ [0]) ∧ Kept2 N g w w' := by
  have hcap := hO.le
  obtain ⟨s1, hs1, hsl1⟩ := slice_from g (m + 1) cap i i rfl (by omega) (by omega)
  obtain rfl := hs1 (by omega)
  obtain ⟨s2, hs2, hsl2⟩ := slice_from g (m + 1) cap (i + 1) ((i : Int) + 1) (by omega) (by omega) (by omega)
  have hsr := search_any N g cap xs k w (by omega) hs (by rw [hm]; exact hA.cell) (fun j hj => hO.cell hj)
  rw [hpos] at hsr
  have HS := hide hsr
  have HO := hide hO
  have HA := hide hA
  have HM := hide hm
  have H2 := hide hs2
  clear hsr hO hA hm hpos hs hs1 hs2
  go_enter Yba.func6, Yba.ntmps6
  go_wp2_with (go_at_call 12; refine HS.out.mono ?_; rintro e w1 ⟨rfl, hb1⟩)
  have hO1 := hide (HO.out.below hb1)
  have hA1 := hide (HA.out.below hb1)
  have hc1 : w1.cell? ⟨N, 0, none⟩ = some (.slice (some ⟨g, 0, none⟩) (m + 1) cap) := hA1.out.cell
  obtain ⟨w5, hcp, hO5, hA5, hK5⟩ := copy_down (w := w1.drew) HM.out him hO1.out s2 H2.out _ hA1.out hNg
  have HCP := hide hcp
  have hwi : IntKind.i64.wrap ((i : Int) + 1) = (i : Int) + 1 := by rw [IntKind.wrap_i64]; omega
  have hwm : IntKind.i64.wrap ((m : Int) + 1 - 1) = (m : Int) := by rw [IntKind.wrap_i64]; omega
  have hwm2 : IntKind.i64.wrap (m : Int) = (m : Int) := by rw [IntKind.wrap_i64]; omega
  clear hcp
  go_region_law (refine Go.Proofs.step_copy_runI rfl (.tmp 14) (.tmp 21) 24 24 rfl _ _ rfl rfl (HCP.out _) ?_)
  all_goals
    have hc5 : w5.cell? ⟨N, 0, none⟩ = some (.slice (some ⟨g, 0, none⟩) (m + 1) cap) := hA5.cell
    have hf5 : w5.frozen? ⟨N, 0, none⟩ = false := hA5.frozen
    have hg5 : w5.cell? ⟨g, m, none⟩ = some (I ((xs.take i ++ xs.drop (i + 1) ++ xs.drop m).getD m 0)) := hO5.cell (by have := HM.out; simp; omega)
    have hgf5 : w5.frozen? ⟨g, m, none⟩ = false := hO5.frozen m
    generalize (xs.take i ++ xs.drop (i + 1) ++ xs.drop m).getD m 0 = z at hg5
    have hmc : (m : Int) ≤ (cap : Int) := by have := HM.out; omega
    clear hc1 hsl1 hsl2 HCP
    go_wp2
    go_region
  all_goals go_wp2
  all_goals go_region
  all_goals go_wp2
  all_goals go_end0
  all_goals
    refine ⟨rfl, (hA5.other (a := ⟨g, m, none⟩) hNg _).set _, ?_, (((((Kept2.of_below N g hb1).drew.trans hK5).setCell (Or.inr rfl) _).setCell (Or.inl rfl) _).drew).drew⟩
    have hO6 := (hO5.set m 0).other (a := ⟨N, 0, none⟩) (Ne.symm hNg) (.slice (some ⟨g, 0, none⟩) m cap)
    rw [set_last HM.out him] at hO6
    exact hO6
end Go.Proofs.Ybulkaiaq
