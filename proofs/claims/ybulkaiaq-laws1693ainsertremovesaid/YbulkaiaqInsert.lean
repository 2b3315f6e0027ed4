/-
  '(*keyList).insert'.
-/
import Derived.Test.YbulkaiaqRemove
namespace Go.Proofs.Ybulkaiaq
open Go.RowKit
set_option linter.unusedVariables false

/-- What the copy leaves: the keys from place i on one place behind. -/
theorem copy_up {w : World} {N g cap n i : Nat} {xs : List Int} {k : Int} (hn : xs.length = n) (hi : i ≤ n) (hO : Own w g cap (xs ++ [k])) (sd : Option Addr) (hsd : i + 1 < cap → sd = some ⟨g, i + 1, none⟩) (v : Value) (hA : At w N v) (hNg : N ≠ g) :
    ∃ w5, (∀ ty, (Builtin.copy_ #[24, 24] ty #[.slice sd (n - i) (cap - (i + 1)), .slice (some ⟨g, i, none⟩) (n + 1 - i) (cap - i)]).run Yba.prog w = .ok (goInt (n - i : Nat)) w5) ∧
      Own w5 g cap ((xs ++ [k]).take (i + 1) ++ xs.drop i) ∧ At w5 N v ∧ Kept2 N g w w5 := by
  by_cases h0 : i = n
  · subst h0
    refine ⟨w, fun ty => ?_, ?_, hA, Kept2.refl _ _ _⟩
    · have := run_copy_none (P := Yba.prog) w 24 24 ty 26 sd (some ⟨g, i, none⟩) (i - i) (cap - (i + 1)) (i + 1 - i) (cap - i) Yba.underlying24 (by kernel_rfl) (by simp)
      simpa using this
    · have : (xs ++ [k]).take (i + 1) ++ xs.drop i = xs ++ [k] := by
        rw [List.drop_of_length_le (by omega), List.append_nil, List.take_of_length_le (by simp; omega)]
      rw [this]; exact hO
  · have hcap := hO.le
    have hl1 : (xs ++ [k]).length = n + 1 := by simp [hn]
    obtain rfl := hsd (by omega)
    have hlen : (xs.drop i).length = n - i := by simp [hn]
    obtain ⟨c', hrun, hO5⟩ := hO.splice (i + 1) (xs.drop i) (by omega)
    refine ⟨w.setRow g c', fun ty => ?_, ?_, hA.row hNg _, (Kept2.refl _ _ _).setRow (Or.inr rfl) _⟩
    · have := hrun 24 24 ty (n - i) (cap - (i + 1)) (n + 1 - i) (cap - i) ⟨g, i, none⟩ rfl (by rw [hlen]; show _ = min _ _; omega) (fun j v hv => by
        rw [List.map_drop, List.getElem?_drop, List.getElem?_map, Option.map_eq_some_iff] at hv
        obtain ⟨z, hz, rfl⟩ := hv
        have hlt := (List.getElem?_eq_some_iff.1 hz).1
        rw [addr_plain, hO.cell (by omega), List.getD_eq_getElem?_getD, List.getElem?_append_left hlt, hz]
        rfl)
      rw [hlen] at this
      exact this
    · rw [hlen, show i + 1 + (n - i) = n + 1 by omega, List.drop_of_length_le (l := xs ++ [k]) (by omega), List.append_nil] at hO5
      exact hO5

theorem set_mid {xs : List Int} {i : Nat} {k : Int} (hi : i ≤ xs.length) : ((xs ++ [k]).take (i + 1) ++ xs.drop i).set i k = xs.take i ++ k :: xs.drop i := by
  have h1 : ((xs ++ [k]).take (i + 1)).length = i + 1 := by simp; omega
  rw [List.set_append_left _ _ (by omega)]
  have h2 : ((xs ++ [k]).take (i + 1)).set i k = xs.take i ++ [k] := by
    apply List.ext_getElem?
    intro j
    rw [List.getElem?_set, h1]
    by_cases e : i = j
    · subst e
      rw [if_pos rfl, if_pos (by omega), List.getElem?_append_right (by simp; omega)]
      simp [Nat.min_eq_left hi]
    · rw [if_neg e, List.getElem?_take]
      by_cases hj : j < i
      · rw [if_pos (by omega), List.getElem?_append_left (by omega), List.getElem?_append_left (by simp; omega), List.getElem?_take, if_pos hj]
      · rw [if_neg (by omega), List.getElem?_eq_none (by simp; omega)]
  rw [h2, List.append_assoc]
  rfl

set_option maxHeartbeats 2000000 in
set_option maxRecDepth 100000 in
theorem insert_any (N g cap n i : Nat) (xs : List Int) (k : Int) (w : World) (hn : xs.length = n) (hn2 : n ≤ 1024) (hpos : pos xs k = i) (hin : i ≤ n) (hs : ∀ a b, a ≤ b → b < xs.length → xs.getD a 0 ≤ xs.getD b 0)
    (hO : Own w g cap xs) (hA : At w N (.slice (some ⟨g, 0, none⟩) n cap)) (hNg : N ≠ g) :
    Calls Yba.prog 9 #[.pointer (some ⟨N, 0, none⟩), I k] w fun e w' => e = .returned (.tuple #[]) ∧ ∃ g' c', At w' N (.slice (some ⟨g', 0, none⟩) (n + 1) c') ∧ Own w' g' c' (xs.take i ++ k :: xs.drop i) ∧ (g' = g ∨ w.heap.size ≤ g') ∧ N ≠ g' ∧ Kept2 N g w w' := by
  have hsr := search_any N g cap xs k w (by omega) hs (by rw [hn]; exact hA.cell) (fun j hj => hO.cell hj)
  rw [hpos] at hsr
  obtain ⟨i0, hi0, hz0, hz1, hz2⟩ := info26
  have HS := hide hsr
  have HO := hide hO
  have HA := hide hA
  have HN := hide hn
  clear hsr hO hA hn hpos hs
  go_enter Yba.func9, Yba.ntmps9
  go_wp2_with fail
  refine HS.out.mono ?_
  rintro e w1 ⟨rfl, hb1⟩
  have hO1 := hide (HO.out.below hb1)
  have hA1 := hide (HA.out.below hb1)
  have hc1 : w1.cell? ⟨N, 0, none⟩ = some (.slice (some ⟨g, 0, none⟩) n cap) := hA1.out.cell
  have hNlt : N < w1.heap.size := hA1.out.lt
  have hown : w1.ownsRow 0 26 1 (.slice (some ⟨g, 0, none⟩) n cap) n (xs.map I) := by
    have := hO1.out.owns (Nat.zero_le _)
    rw [HN.out] at this
    exact this
  go_wp2_with (at_builtin; refine wpList_append_own_at _ rfl (.tmp 12) (.tmp 14) 24 rfl 0 26 i0 (I 0) 1 8 Yba.underlying24 hi0 hz0 hz1 hz2 rfl (by decide) _ _ _ rfl (hown.alloc _) ⟨w1.heap.size, 0, none⟩ 1 1 [I k] rfl ?a1 ?a2 ?a3 ?a4 ?a5 ?a6 ?_)
  case a1 => rfl
  case a2 => exact cell_one_new _ _ _
  case a3 => intro u hu; simp at hu; subst hu; rfl
  case a4 => unfold maxLen; omega
  case a5 => omega
  case a6 => exact Nat.zero_le _
  intro v2 w2 hown2 hgrow hnil hat
  have hown3 : w2.ownsRow 0 26 1 v2 (n + 1) ((xs ++ [k]).map I) := by rw [List.map_append]; exact hown2
  have hnil3 : v2 ≠ .slice none 0 0 := hnil
  obtain ⟨g', c', rfl, _, hO2⟩ := own_of hown3 hnil3
  have hgg : g' = g ∨ g' = w1.heap.size + 1 := by
    rcases hat with h | h
    · left; simpa [Value.ownBlock] using h
    · right; simpa [Value.ownBlock] using h
  have hK2 : Kept2 N g w w2 := by
    have h1 := (Kept2.of_below N g hb1)
    refine h1.trans (⟨hgrow.os, hgrow.tape, hgrow.output, by have := hgrow.size; simp at this; omega, fun b hb _ h3 => ?_⟩)
    rw [hgrow.block b (by simp; omega) (by simpa [Value.ownBlock] using h3)]
    exact Below.heap_alloc w1 _ b hb
  have hNg' : N ≠ g' := by omega
  have hA2 : At w2 N (.slice (some ⟨g, 0, none⟩) n cap) := by
    have := hgrow.block N (by simp; omega) (by simpa [Value.ownBlock] using hNg)
    exact this.trans ((Below.heap_alloc w1 _ N hNlt).trans hA1.out)
  have hl2 : (xs ++ [k]).length = n + 1 := by simp [HN.out]
  rw [hl2]
  have hc2 : w2.cell? ⟨N, 0, none⟩ = some (.slice (some ⟨g, 0, none⟩) n cap) := hA2.cell
  have hf2 : w2.frozen? ⟨N, 0, none⟩ = false := hA2.frozen
  have hcap' := hO2.le
  have hO3 := hO2.other (a := ⟨N, 0, none⟩) (Ne.symm hNg') (.slice (some ⟨g', 0, none⟩) (n + 1) c')
  have hA3 := hA2.set (.slice (some ⟨g', 0, none⟩) (n + 1) c')
  obtain ⟨sd, hsd, hsl1⟩ := slice_from g' (n + 1) c' (i + 1) ((i : Int) + 1) (by omega) (by omega) (by omega)
  obtain ⟨s2, hs2, hsl2⟩ := slice_from g' (n + 1) c' i i rfl (by omega) (by omega)
  obtain rfl := hs2 (by omega)
  obtain ⟨w5, hcp, hO5, hA5, hK5⟩ := copy_up (w := (w2.setCell ⟨N, 0, none⟩ (.slice (some ⟨g', 0, none⟩) (n + 1) c')).drew) HN.out hin hO3 sd hsd _ hA3 hNg'
  have HCP := hide hcp
  have hwi : IntKind.i64.wrap ((i : Int) + 1) = (i : Int) + 1 := by rw [IntKind.wrap_i64]; omega
  have HK2 := hide hK2
  have HK5 := hide hK5
  have HO5 := hide hO5
  have HA5 := hide hA5
  have HL2 := hide hl2
  clear hcp hs2 hsd hown3 hown2 hnil hnil3 hat hgrow hK2 hA2 hO2 hl2 hO3 hA3 hK5 hO5 hA5 hown hc1 hcap'
  go_wp2
  go_region_law (refine Go.Proofs.step_copy_runI rfl (.tmp 24) (.tmp 30) 24 24 rfl _ _ rfl rfl (HCP.out _) ?_)
  all_goals
    have hc5 : w5.cell? ⟨N, 0, none⟩ = some (.slice (some ⟨g', 0, none⟩) (n + 1) c') := HA5.out.cell
    have hlt5 : i < ((xs ++ [k]).take (i + 1) ++ xs.drop i).length := by have := HL2.out; have := HN.out; simp; omega
    have hg5 := HO5.out.cell hlt5
    have hgf5 : w5.frozen? ⟨g', i, none⟩ = false := HO5.out.frozen i
    generalize ((xs ++ [k]).take (i + 1) ++ xs.drop i).getD i 0 = z at hg5
    have hii : (i : Int) < (n : Int) + 1 := by omega
    clear hc2 hf2 hsl1 hsl2 HCP hlt5
    go_wp2
    go_end0
    refine ⟨rfl, g', c', HA5.out.other (a := ⟨g', i, none⟩) hNg' _, ?_, ?_, hNg', ?_⟩
    · have h6 := HO5.out.set i k
      rw [set_mid (by have := HN.out; omega)] at h6
      exact h6
    · rcases hgg with h | h
      · exact Or.inl h
      · right; have := hb1.size; omega
    · have hs1 := hb1.size
      have k5 := HK5.out
      have k2 := HK2.out
      refine ⟨k5.os.trans k2.os, k5.tape.trans k2.tape, k5.output.trans k2.output, ?_, fun b hb h1 h2 => ?_⟩
      · have a1 := k5.size
        have a2 := k2.size
        simp [World.setCell, World.drew] at a1 ⊢
        omega
      · have a2 := k2.size
        rw [Below.heap_setCell _ _ _ _ (by show b ≠ g'; omega), k5.block b (by simp [World.setCell, World.drew]; omega) h1 (by omega)]
        show (w2.setCell _ _).heap[b]? = _
        rw [Below.heap_setCell _ _ _ _ h1]
        exact k2.block b hb h1 h2
end Go.Proofs.Ybulkaiaq
