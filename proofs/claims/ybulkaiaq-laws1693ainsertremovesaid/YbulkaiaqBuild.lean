/-
  'zzs1693abuild': a strictly rising list in memory of the call's own.
-/
import Derived.Test.YbulkaiaqSearch
import Derived.Test.YbulkaiaqPlain
import Derived.LoopTactic
import Derived.OwnWalk
import Derived.Maps.AppendAt
namespace Go.Proofs.Ybulkaiaq
open Go.RowKit
set_option linter.unusedVariables false

abbrev I (n : Int) : Value := .int .i64 n

/-- Block g (26: the key type) holds xs in its first cells; cap cells in all. -/
def Own (w : World) (g cap : Nat) (xs : List Int) : Prop :=
  ∃ cur : Array Value, w.heap[g]? = some (.cells cur 26 (0, 0)) ∧ xs.length ≤ cap ∧ cap ≤ maxLen ∧ cur.size = cap ∧ cur.toList.take xs.length = xs.map I

theorem Own.lt {w : World} {g cap : Nat} {xs : List Int} (h : Own w g cap xs) : g < w.heap.size := by
  obtain ⟨cur, hg, _⟩ := h
  exact (Array.getElem?_eq_some_iff.1 hg).1

theorem Own.le {w : World} {g cap : Nat} {xs : List Int} (h : Own w g cap xs) : xs.length ≤ cap := by
  obtain ⟨cur, _, hl, _⟩ := h
  exact hl

theorem Own.cell {w : World} {g cap : Nat} {xs : List Int} (h : Own w g cap xs) {i : Nat} (hi : i < xs.length) : w.cell? ⟨g, i, none⟩ = some (I (xs.getD i 0)) := by
  obtain ⟨cur, hg, _, _, hs, ht⟩ := h
  rw [Go.Joins.cell_of_block hg]
  have := congrArg (·[i]?) ht
  simp only [List.getElem?_take, if_pos hi, List.getElem?_map] at this
  rw [← Array.getElem?_toList, this, List.getElem?_eq_getElem hi, List.getD_eq_getElem?_getD, List.getElem?_eq_getElem hi]
  rfl

theorem Own.frozen {w : World} {g cap : Nat} {xs : List Int} (h : Own w g cap xs) (i : Nat) : w.frozen? ⟨g, i, none⟩ = false := by
  obtain ⟨cur, hg, _⟩ := h
  exact Go.Joins.unfrozen_of_block hg i

theorem Own.of_block {w w' : World} {g cap : Nat} {xs : List Int} (h : Own w g cap xs) (e : w'.heap[g]? = w.heap[g]?) : Own w' g cap xs := by
  obtain ⟨cur, hg, r⟩ := h
  exact ⟨cur, e.trans hg, r⟩

theorem Own.below {w w' : World} {g cap : Nat} {xs : List Int} (h : Own w g cap xs) (hb : Below w.heap.size w w') : Own w' g cap xs := h.of_block (hb.block g h.lt)
theorem Own.alloc {w : World} {g cap : Nat} {xs : List Int} (h : Own w g cap xs) (o : Obj) : Own (w.alloc o) g cap xs := h.of_block (Below.heap_alloc w o g h.lt)
theorem Own.other {w : World} {g cap : Nat} {xs : List Int} (h : Own w g cap xs) {a : Addr} (ha : g ≠ a.block) (v : Value) : Own (w.setCell a v) g cap xs := h.of_block (Below.heap_setCell w a v g ha)

theorem Own.owns {w : World} {g cap : Nat} {xs : List Int} (h : Own w g cap xs) {B : Nat} (hB : B ≤ g) : w.ownsRow B 26 1 (.slice (some ⟨g, 0, none⟩) xs.length cap) xs.length (xs.map I) := by
  obtain ⟨cur, hg, hl, hm, hs, ht⟩ := h
  exact ⟨by simp, Or.inr ⟨g, cap, cur, rfl, hB, hg, hl, hm, by omega, by rw [Nat.mul_one]; exact ht⟩⟩

theorem own_of {w : World} {B n : Nat} {v : Value} {xs : List Int} (h : w.ownsRow B 26 1 v n (xs.map I)) (hv : v ≠ .slice none 0 0) : ∃ g cap, v = .slice (some ⟨g, 0, none⟩) xs.length cap ∧ B ≤ g ∧ Own w g cap xs := by
  obtain ⟨hl, h2⟩ := h
  have hn : n = xs.length := by simpa using hl.symm
  subst hn
  rcases h2 with ⟨rfl, _⟩ | ⟨g, cap, cur, rfl, hb, hg, hn, hm, hs, ht⟩
  · exact absurd rfl hv
  · exact ⟨g, cap, rfl, hb, cur, hg, hn, hm, by omega, by rw [Nat.mul_one] at ht; exact ht⟩

theorem Own.holds {w : World} {g cap : Nat} {xs : List Int} (h : Own w g cap xs) : Sort.Holds (Value.int .i64) w g 0 xs.toArray := fun j hj => by
  have hj' : j < xs.length := by simpa using hj
  rw [Nat.zero_add]
  refine ⟨?_, h.frozen j⟩
  rw [h.cell hj', getElem!_pos _ j hj, List.getD_eq_getElem?_getD, List.getElem?_eq_getElem hj']
  simp

/-- A row laid over the row. -/
theorem Own.put {w : World} {g cap : Nat} {xs ys : List Int} (h : Own w g cap xs) (hy : ys.length = xs.length) (q : Nat) (os : Array Obj) : Own (Sort.grow (Sort.putRow (Value.int .i64) (Sort.ahead w q) g 0 ys.toArray) os) g cap ys := by
  have hlt := h.lt
  obtain ⟨cur, hg, hl, hm, hs, ht⟩ := h
  refine ⟨Sort.putCells (Value.int .i64) 0 ys.toArray cur, ?_, by omega, hm, by simp [Sort.putCells, hs], ?_⟩
  · rw [Sort.heap_grow_old _ _ (by simpa [Sort.putRow, Sort.mapBlock, Sort.ahead] using hlt)]
    simp only [Sort.putRow, Sort.mapBlock, Array.getElem?_modify, if_true]
    show ((w.heap[g]?).map _) = _
    rw [hg]
    rfl
  · apply List.ext_getElem?
    intro i
    rw [List.getElem?_take]
    by_cases hi : i < ys.length
    · rw [if_pos hi, Array.getElem?_toList]
      simp only [Sort.putCells, Array.getElem?_mapIdx, List.size_toArray]
      have hc : i < cur.size := by omega
      rw [Array.getElem?_eq_getElem hc, Option.map_some, if_pos ⟨Nat.zero_le _, by omega⟩, List.getElem?_map, List.getElem?_eq_getElem hi, Nat.sub_zero, getElem!_pos _ i (by simpa using hi)]
      simp
    · rw [if_neg hi, List.getElem?_eq_none (by simp; omega)]

theorem Own.take {w : World} {g cap : Nat} {xs : List Int} (h : Own w g cap xs) (ys zs : List Int) (e : xs = ys ++ zs) : Own w g cap ys := by
  subst e
  obtain ⟨cur, hg, hl, hm, hs, ht⟩ := h
  refine ⟨cur, hg, by simp at hl; omega, hm, hs, ?_⟩
  have := congrArg (List.take ys.length) ht
  simpa [List.take_take] using this

theorem below_put {w : World} {B g q : Nat} {d : Array Int} {os : Array Obj} (hB : B ≤ g) (hs : B ≤ w.heap.size) : Below B w (Sort.grow (Sort.putRow (Value.int .i64) (Sort.ahead w q) g 0 d) os) := by
  refine ⟨rfl, rfl, rfl, by simp [Sort.grow, Sort.putRow, Sort.mapBlock, Sort.ahead], fun k hk => ?_⟩
  show ((w.heap.modify g _) ++ os)[k]? = _
  rw [Array.getElem?_append_left (by simp; omega), Array.getElem?_modify, if_neg (by omega)]

theorem sort10 (n g cap : Nat) (zs : List Int) (w : World) (hn : zs.length = n) (h : Own w g cap zs) (hsz : n ≤ 1024) :
    Calls Yba.prog 10 #[.slice (some ⟨g, 0, none⟩) n cap] w fun e w' =>
      e = .returned (.tuple #[]) ∧ ∃ q os, w' = Sort.grow (Sort.putRow (Value.int .i64) (Sort.ahead w q) g 0 (zs.mergeSort fun x y => decide (x ≤ y)).toArray) os := by
  subst hn
  exact AnyG.slices_Sort_int Yba.lsort g 0 cap zs w h.holds h.lt (by omega)

theorem compact11 (n g cap : Nat) (zs : List Int) (w : World) (hn : zs.length = n) (h : Own w g cap zs) (hsz : n ≤ 1024) :
    Calls Yba.prog 11 #[.slice (some ⟨g, 0, none⟩) n cap] w fun e w' =>
      e = .returned (.slice (some ⟨g, 0, none⟩) (Lib.compact zs).length cap) ∧ ∃ q, w' = Sort.putRow (Value.int .i64) (Sort.ahead w q) g 0 (Lib.compact zs ++ List.replicate (zs.length - (Lib.compact zs).length) 0).toArray := by
  subst hn
  exact AnyG.slices_Compact_int Yba.lcompact g 0 cap zs w h.holds (by omega) h.le

theorem made24 (len : Nat) (hl : len ≤ 1024) (W : World) :
    (Instr.makeSlice 24 (.int .i64 0) (.int .i64 (len : Int))).run Yba.prog W = .ok (.slice (some ⟨W.heap.size, 0, none⟩) 0 len) (W.alloc (.cells (madeCells #[I 0] len) 26)) := by
  obtain ⟨i, hi, h1, h2, h3⟩ : ∃ i, Yba.prog.info? 26 = some i ∧ i.zero = some (I 0) ∧ i.size = 1 ∧ i.bytes = 8 := ⟨_, rfl, rfl, rfl, rfl⟩
  have h := run_make (P := Yba.prog) W 24 26 i (I 0) Yba.underlying24 hi h1 .i64 .i64 0 len (by omega) (by omega) (by rw [h3]; omega) (by omega)
  rw [h2, show (I 0).cells = #[I 0] from rfl] at h
  simpa using h

theorem info26 : ∃ i, Yba.prog.info? 26 = some i ∧ i.zero = some (I 0) ∧ i.size = 1 ∧ i.bytes = 8 := ⟨_, rfl, rfl, rfl, rfl⟩

set_option maxHeartbeats 2000000 in
set_option maxRecDepth 100000 in
theorem build_any (a0 : Option Addr) (len cap : Nat) (xs : Nat → Int) (bc off : Nat) (w : World) (hl : len ≤ 1024)
    (ha : 0 < len → a0 = some ⟨bc, off, none⟩) (hcell : ∀ i, i < len → w.cell? ⟨bc, off + i, none⟩ = some (.int .i64 (xs i))) :
    Calls Yba.prog 5 #[.slice a0 len cap] w fun e w' => ∃ g c ks, e = .returned (.slice (some ⟨g, 0, none⟩) (ks : List Int).length c) ∧ ks.length ≤ len ∧ Rises ks ∧ w.heap.size ≤ g ∧ Own w' g c ks ∧ Below w.heap.size w w' := by
  have hmk := made24 len hl
  obtain ⟨i0, hi0, hz0, hz1, hz2⟩ := info26
  go_enter Yba.func5, Yba.ntmps5
  go_wp2
  clear hmk
  go_loopw [3, 11] (fun v i wr => ∃ k : Nat, k ≤ len ∧ i = .int .i64 k ∧ v ≠ .slice none 0 0 ∧ wr.ownsRow w.heap.size 26 1 v k (((List.range k).map xs).map I) ∧ Below w.heap.size w wr) (fun _ i _ => len - (intOf i).toNat)
  case atStart =>
    refine ⟨0, Nat.zero_le _, rfl, by simp, ?_, (Below.refl _ _).alloc (Nat.le_refl _) _⟩
    exact World.ownsRow_made w _ len (Nat.le_refl _) (by unfold maxLen; omega) (by simp [size_madeCells])
  case round =>
    obtain ⟨k, hk, rfl, hv, hown, Bw⟩ := hrel
    by_cases hlt : k < len
    · obtain rfl := ha (by omega)
      have hc := hcell k hlt
      have hbc := World.block_lt_of_cell? _ _ hc
      have hc1 : wr.cell? ⟨bc, off + k, none⟩ = some (.int .i64 (xs k)) := (Bw.cell (p := ⟨bc, off + k, none⟩) hbc).trans hc
      clear hcell hc
      go_wp2_with (at_builtin; refine wpList_append_own _ rfl _ _ 24 rfl w.heap.size 26 i0 (I 0) 1 8 Yba.underlying24 hi0 hz0 hz1 hz2 rfl (by decide) _ _ _ rfl (hown.alloc _) ⟨wr.heap.size, 0, none⟩ 1 1 [I (xs k)] rfl ?a1 ?a2 ?a3 ?a4 ?a5 ?a6 ?_)
      case a3 => rfl
      case a4 => unfold maxLen; omega
      case a5 => omega
      case a6 => have := Bw.size; simp; omega
      intro v' w1 hown' hgrow hnil
      go_wp2
      go_roundw
      case rel =>
        refine ⟨k + 1, by omega, by go_num, ?_, ?_, ?_⟩
        · exact hnil
        · rw [List.range_succ, List.map_append, List.map_append, List.map_map]; exact hown'
        · exact (Bw.alloc (by have := Bw.size; omega) _).grown hgrow (by have := Bw.size; simp; omega) (fun k hk => (hown.lt k hk).1)
      case measure => simp [intOf]; omega
    · obtain rfl : k = len := by omega
      obtain ⟨g, c, rfl, hg, hO⟩ := own_of hown hv
      rw [show ((List.range k).map xs).length = k by simp]
      have hkl : ((List.range k).map xs).length = k := by simp
      have HO := hide hO
      have HK := hide hkl
      clear hown hO hv hkl
      go_wp2_with fail
      refine (sort10 k g c _ wr HK.out HO.out hl).mono ?_
      rintro e w1 ⟨rfl, q, os, rfl⟩
      have hO2 := hide (HO.out.put (ys := ((List.range k).map xs).mergeSort fun x y => decide (x ≤ y)) (by rw [List.length_mergeSort]) q os)
      have hB2 := Bw.trans (below_put (w := wr) (q := q) (os := os) (d := (((List.range k).map xs).mergeSort fun x y => decide (x ≤ y)).toArray) hg Bw.size)
      have hR := hide (compact_sorted_rises ((List.range k).map xs))
      have hL2 : Hid ((((List.range k).map xs).mergeSort fun x y => decide (x ≤ y)).length = k) := by
        show (((List.range k).map xs).mergeSort fun x y => decide (x ≤ y)).length = k
        rw [List.length_mergeSort]; exact HK.out
      generalize Sort.grow (Sort.putRow (Value.int .i64) (Sort.ahead wr q) g 0 (((List.range k).map xs).mergeSort fun x y => decide (x ≤ y)).toArray) os = W2 at hO2 hB2 ⊢
      generalize ((List.range k).map xs).mergeSort (fun x y => decide (x ≤ y)) = ss at hO2 hR hL2
      clear HO HK
      go_wp2_with fail
      refine (compact11 k g c ss W2 hL2.out hO2.out hl).mono ?_
      rintro e w3 ⟨rfl, q2, rfl⟩
      have hcl := compact_length ss
      have hO3 := hide (hO2.out.put (ys := Lib.compact ss ++ List.replicate (ss.length - (Lib.compact ss).length) 0) (by simp; omega) q2 #[])
      have hB3 := hB2.trans (below_put (w := W2) (q := q2) (os := #[]) (d := (Lib.compact ss ++ List.replicate (ss.length - (Lib.compact ss).length) 0).toArray) hg hB2.size)
      rw [Sort.grow_empty] at hO3 hB3
      have hks := hL2.out
      have hO4 := hide (hO3.out.take _ _ rfl)
      clear hO3
      generalize Sort.putRow (Value.int .i64) (Sort.ahead W2 q2) g 0 (Lib.compact ss ++ List.replicate (ss.length - (Lib.compact ss).length) 0).toArray = W3 at hO4 hB3 ⊢
      generalize Lib.compact ss = ks at hR hcl hO4 ⊢
      go_wp2
      go_ret
      exact ⟨g, c, ks, rfl, by omega, hR.out, hg, hO4.out, hB3⟩
end Go.Proofs.Ybulkaiaq
