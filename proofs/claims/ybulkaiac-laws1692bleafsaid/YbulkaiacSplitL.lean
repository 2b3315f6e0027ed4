/-
  '(*arrayNode).split' where the node is a leaf.
-/
import Derived.Test.YbulkaiacSplitC
namespace Go.Proofs.Ybulkaiac
open Go.RowKit
set_option linter.unusedVariables false

abbrev nilI : Value := .nilIface

theorem clone8 (b off n c : Nat) (news : List Value) (w : World) (hl : news.length = n * 2) (hn : n ≤ 1024)
    (hc : ∀ j u, news[j]? = some u → w.cell? ⟨b, off + j, none⟩ = some u) (h1 : ∀ u ∈ news, u.oneCell' = true) :
    Calls Yba.prog 8 #[.slice (some ⟨b, off, none⟩) n c] w fun e w' => ∃ v', e = .returned v' ∧ w'.ownsRow w.heap.size 32 2 v' n news ∧ v' ≠ .slice none 0 0 ∧ Below w.heap.size w w' :=
  AnyE.slices_Clone Yba.lclone8 _ (.agg #[nilI, nilI]) 2 32 rfl rfl rfl rfl rfl (by decide) (fun w => Yba.sizeOf32 w) b off n c news w hl (by unfold maxLen; omega) (by omega) hc h1

theorem zeros2 (n : Nat) : (Builtin.zeroCells (Value.agg #[nilI, nilI]).cells n).toList = List.replicate (n * 2) nilI := by
  have e : (Value.agg #[nilI, nilI]).cells = #[nilI, nilI] := rfl
  rw [e]
  apply List.ext_getElem
  · simp [Builtin.zeroCells]
  · intro i h1 h2
    simp only [Builtin.zeroCells, List.getElem_replicate, Array.getElem_toList, Array.getElem_map, Array.getElem_range]
    rcases Nat.mod_two_eq_zero_or_one i with h | h
    · simp [h]
    · simp [h]

theorem clear32 (w : World) (b L h : Nat) (f : Nat → Value) (hB : w.rowIs b 32 (L * 2) f) (hh : h ≤ L) (ty : TypeId) (c : Nat) :
    (Builtin.clear_ #[23] ty #[.slice (some ⟨b, h * 2, none⟩) (L - h) c]).run Yba.prog w = .ok (.tuple #[]) (w.setCells b (h * 2) (List.replicate ((L - h) * 2) nilI)) := by
  by_cases hz : 0 < L - h
  · have hst := run_storeCells_cells (P := Yba.prog) b (h * 2) (List.replicate ((L - h) * 2) nilI) 0 w (by intro j hj; simp at hj; rw [hB.cell (by omega)]; rfl) (by intro j hj; exact hB.frozen _) (by intro v hv; rw [List.eq_of_mem_replicate hv]; rfl)
    simp only [Nat.add_zero] at hst
    obtain ⟨m, hm⟩ : ∃ m, L - h = m + 1 := ⟨L - h - 1, by omega⟩
    have hzc := zeros2 (m + 1)
    rw [hm] at hst ⊢
    simp [Builtin.clear_, run_underlying Yba.underlying23, Yba.zeroValue32, hzc, hst]
  · have : L - h = 0 := by omega
    rw [this]
    simp [Builtin.clear_, run_underlying Yba.underlying23, World.setCells]

theorem cleared32 {w : World} {b L h : Nat} {f : Nat → Value} (hB : w.rowIs b 32 (L * 2) f) (hh : h ≤ L) :
    (w.setCells b (h * 2) (List.replicate ((L - h) * 2) nilI)).rowIs b 32 (L * 2) (fun i => if i < h * 2 then f i else nilI) := by
  refine (rowIs_setCells (List.replicate ((L - h) * 2) nilI) (h * 2) w f hB).congr fun i hi => ?_
  rw [List.length_replicate]
  by_cases e : i < h * 2
  · rw [if_neg (by omega), if_pos e]
  · rw [if_pos (by omega), if_neg e, List.getElem?_replicate, if_pos (by omega)]
    rfl

theorem slice_half2 (b L : Nat) :
    ∀ W, (Instr.sliceAt 23 (.slice (some ⟨b, 0, none⟩) L L) (some (.int .i64 ((L : Int) / 2))) none none).run Yba.prog W = .ok (.slice (some ⟨b, L / 2 * 2, none⟩) (L - L / 2) (L - L / 2)) W := fun W => by
  have hT := Yba.underlying23
  have he : Yba.prog.elem 23 = 32 := by simp [Program.elem, hT]
  rw [run_sliceAt_slice W 23 _ _ _ _ (by rw [he]; exact hT), run_slice_l W 23 (some ⟨b, 0, none⟩) L L (by rw [he]; exact hT) .i64 ((L : Int) / 2) (by omega) (by omega), he, Yba.sizeOf32]
  have e2 : ((L : Int) / 2).toNat = L / 2 := by omega
  simp only [Result.andThen, sliced, e2]
  by_cases hz : L = L / 2
  · have h0 : L = 0 := by omega
    subst h0; rfl
  · rw [if_neg hz]
    simp [addr_plain]

/-- What 'split' meets at a leaf. -/
structure LeafPre (N b L : Nat) (f : Nat → Value) (w : World) : Prop where
  hNb : N ≠ b
  hN : w.rowIs N 36 3 (node (.slice (some ⟨b, 0, none⟩) L L) nilS (.int .i64 L))
  hB : w.rowIs b 32 (L * 2) f
  one : ∀ i, (f i).oneCell' = true

/-- Between. -/
structure LeafMid (N b R L g : Nat) (f f' : Nat → Value) (nv rv : Value) (nc rc : Int) (w w' : World) : Prop where
  kept : Kept2 N b w w'
  hN : w'.rowIs N 36 3 (node nv nilS (.int .i64 nc))
  hB : w'.rowIs b 32 (L * 2) f'
  hR : w'.rowIs R 36 3 (node rv nilS (.int .i64 rc))
  hG : ∀ i, i < (L - L / 2) * 2 → w'.cell? ⟨g, i, none⟩ = some (f (L / 2 * 2 + i))

theorem leaf_clone {N b L : Nat} {f : Nat → Value} {w : World} (hL : L ≤ 1024) (H : LeafPre N b L f w) :
    Calls Yba.prog 8 #[.slice (some ⟨b, L / 2 * 2, none⟩) (L - L / 2) (L - L / 2)] (w.alloc (.cells #[nilS, nilS, .int .i64 0] 36)) fun e w' =>
      ∃ g cap, e = .returned (.slice (some ⟨g, 0, none⟩) (L - L / 2) cap) ∧ w.heap.size < g ∧ LeafMid N b w.heap.size L g f f (.slice (some ⟨b, 0, none⟩) L L) nilS L 0 w w' := by
  refine (clone8 b (L / 2 * 2) (L - L / 2) (L - L / 2) ((List.range ((L - L / 2) * 2)).map fun i => f (L / 2 * 2 + i)) _ (by simp) (by omega) (fun j u hj => ?_) (fun u hu => ?_)).mono ?_
  · simp only [List.getElem?_map, Option.map_eq_some_iff] at hj
    obtain ⟨i, hi, rfl⟩ := hj
    obtain ⟨hlt, rfl⟩ := List.getElem?_eq_some_iff.1 hi
    simp only [List.getElem_range]
    exact (H.hB.alloc _).cell (by simp at hlt; omega)
  · simp only [List.mem_map] at hu
    obtain ⟨i, _, rfl⟩ := hu
    exact H.one _
  rintro e w2 ⟨v', rfl, hown, hnn, hb2⟩
  obtain ⟨g, cap, rfl, hg1, hg2, hcap, hG⟩ := ownsRow_cells hown hnn
  refine ⟨g, cap, rfl, by have := hg1; simp at this; omega, ((Kept2.refl N b w).alloc _).below hb2, rowIs_below (H.hN.alloc _) hb2, rowIs_below (H.hB.alloc _) hb2, rowIs_below (new_node w) hb2, fun i hi => ?_⟩
  exact hG i _ (by simp [hi])

theorem leaf_clear {N b L g cap : Nat} {f : Nat → Value} {w w2 : World} (H : LeafPre N b L f w) (hg : w.heap.size < g)
    (M : LeafMid N b w.heap.size L g f f (.slice (some ⟨b, 0, none⟩) L L) nilS L 0 w w2) :
    ∃ w4, (∀ ty, (Builtin.clear_ #[23] ty #[.slice (some ⟨b, L / 2 * 2, none⟩) (L - L / 2) (L - L / 2)]).run Yba.prog (w2.setCell ⟨w.heap.size, 0, none⟩ (.slice (some ⟨g, 0, none⟩) (L - L / 2) cap)) = .ok (.tuple #[]) w4) ∧
      LeafMid N b w.heap.size L g f (fun i => if i < L / 2 * 2 then f i else nilI) (.slice (some ⟨b, 0, none⟩) L L) (.slice (some ⟨g, 0, none⟩) (L - L / 2) cap) L 0 w w4 := by
  have hNlt := H.hN.lt
  have hblt := H.hB.lt
  have hB3 := M.hB.setOther (a := ⟨w.heap.size, 0, none⟩) (by simp; omega) (.slice (some ⟨g, 0, none⟩) (L - L / 2) cap)
  refine ⟨_, fun ty => clear32 _ b L (L / 2) _ hB3 (by omega) ty _, ?_⟩
  have hNb := H.hNb
  refine ⟨Kept2.setCells (Or.inr (Or.inl rfl)) _ _ _ (M.kept.setCell (Or.inr (Or.inr (by simp))) _), ?_, cleared32 hB3 (by omega), ?_, fun i hi => ?_⟩
  · exact rowIs_setCells_other (by omega) _ _ _ (M.hN.setOther (by simp; omega) _)
  · refine rowIs_setCells_other (by omega) _ _ _ ((M.hR.set 0 _).congr fun i hi => ?_)
    match i, hi with
    | 0, _ => rfl
    | 1, _ => rfl
    | 2, _ => rfl
  · rw [World.cell?_setCells_out b _ _ _ _ (fun e _ => absurd e (by simp only; omega)), World.cell?_setCell_other _ _ _ _ (by simp)]
    exact M.hG i hi

theorem leaf_end {N b R L g : Nat} {f f' : Nat → Value} {nv rv : Value} {nc rc : Int} {w w4 : World} (M : LeafMid N b R L g f f' nv rv nc rc w w4) (hRs : w.heap.size ≤ R) (hNR : N ≠ R) (hNb : N ≠ b) (hbR : b ≠ R) (hNg : N ≠ g) (hRg : g ≠ R) (nv' : Value) (nc' rc' : Int) :
    LeafMid N b R L g f f' nv' rv nc' rc' w ((((w4.setCell ⟨N, 0, none⟩ nv').setCell ⟨R, 2, none⟩ (.int .i64 rc')).setCell ⟨N, 2, none⟩ (.int .i64 nc')).drew) := by
  refine ⟨(((M.kept.setCell (Or.inl rfl) _).setCell (Or.inr (Or.inr hRs)) _).setCell (Or.inl rfl) _).drew, ?_, ?_, ?_, fun i hi => ?_⟩
  · exact (((M.hN.set 0 nv').setOther (by simp; omega) _).set 2 _).congr fun i hi => by
      match i, hi with
      | 0, _ => rfl
      | 1, _ => rfl
      | 2, _ => rfl
  · exact ((M.hB.setOther (a := ⟨N, 0, none⟩) (Ne.symm hNb) _).setOther (a := ⟨R, 2, none⟩) hbR _).setOther (a := ⟨N, 2, none⟩) (Ne.symm hNb) _
  · exact (((M.hR.setOther (a := ⟨N, 0, none⟩) (Ne.symm hNR) _).set 2 _).setOther (a := ⟨N, 2, none⟩) (Ne.symm hNR) _).congr fun i hi => by
      match i, hi with
      | 0, _ => rfl
      | 1, _ => rfl
      | 2, _ => rfl
  · show (((w4.setCell ⟨N, 0, none⟩ nv').setCell ⟨R, 2, none⟩ (.int .i64 rc')).setCell ⟨N, 2, none⟩ (.int .i64 nc')).cell? ⟨g, i, none⟩ = _
    rw [World.cell?_setCell_other _ _ _ _ (fun e => hNg (congrArg Addr.block e)), World.cell?_setCell_other _ _ _ _ (fun e => hRg (congrArg Addr.block e).symm), World.cell?_setCell_other _ _ _ _ (fun e => hNg (congrArg Addr.block e))]
    exact M.hG i hi

set_option maxHeartbeats 2000000 in
set_option maxRecDepth 100000 in
theorem split_leaf (N b L : Nat) (f : Nat → Value) (w : World) (hL : L ≤ 1024) (H : LeafPre N b L f w) :
    Calls Yba.prog 5 #[ptr N] w fun e w' => e = .returned (ptr w.heap.size) ∧ ∃ g cap, LeafMid N b w.heap.size L g f (fun i => if i < L / 2 * 2 then f i else nilI) (.slice (some ⟨b, 0, none⟩) (L / 2) L) (.slice (some ⟨g, 0, none⟩) (L - L / 2) cap) (L - (L - L / 2 : Nat)) (L - L / 2 : Nat) w w' := by
  have hN0 : w.cell? ⟨N, 0, none⟩ = some (.slice (some ⟨b, 0, none⟩) L L) := H.hN.cell (by omega)
  have hN1 : w.cell? ⟨N, 1, none⟩ = some (.slice none 0 0) := H.hN.cell (i := 1) (by omega)
  have hNlt := H.hN.lt
  have hNR : N ≠ w.heap.size := by omega
  have q34 : ∀ (w : World) (a : Option Addr) (n c n' c' : Nat), (binOp .neq 34 (.slice a n c) (.slice none n' c')).run Yba.prog w = .ok (.bool a.isSome) w := fun w a n c n' c' => by
    rw [run_neq_slice_nil_any w 34 33 a n c n' c' Yba.underlying34]; cases a <;> rfl
  have hsl := slice_half2 b L
  unfold ptr
  go_enter Yba.func5, Yba.ntmps5
  go_wp2_with (go_at_call 8; refine (leaf_clone hL H).mono ?_; rintro e w2 ⟨g, cap, rfl, hg, M⟩; have hc2 : w2.cell? ⟨N, 0, none⟩ = some (.slice (some ⟨b, 0, none⟩) L L) := M.hN.cell (by omega); have hr2 : w2.cell? ⟨w.heap.size, 0, none⟩ = some (.slice none 0 0) := M.hR.cell (i := 0) (by omega); have hf2 : w2.frozen? ⟨w.heap.size, 0, none⟩ = false := M.hR.frozen 0; obtain ⟨w4, hcl, M4⟩ := leaf_clear (cap := cap) H hg M; have hc4 : w4.cell? ⟨N, 0, none⟩ = some (.slice (some ⟨b, 0, none⟩) L L) := M4.hN.cell (by omega); have hc42 : w4.cell? ⟨N, 2, none⟩ = some (.int .i64 L) := M4.hN.cell (i := 2) (by omega); have hf4 : w4.frozen? ⟨N, 0, none⟩ = false := M4.hN.frozen 0; have hf42 : w4.frozen? ⟨N, 2, none⟩ = false := M4.hN.frozen 2;  have hr4 : w4.cell? ⟨w.heap.size, 0, none⟩ = some (.slice (some ⟨g, 0, none⟩) (L - L / 2) cap) := M4.hR.cell (i := 0) (by omega); have hr42 : w4.cell? ⟨w.heap.size, 2, none⟩ = some (.int .i64 0) := M4.hR.cell (i := 2) (by omega); have hrf4 : w4.frozen? ⟨w.heap.size, 2, none⟩ = false := M4.hR.frozen 2)
  go_region
  all_goals go_wp2
  all_goals go_ret
  all_goals
    have hblt := H.hB.lt
    exact ⟨rfl, g, cap, leaf_end M4 (Nat.le_refl _) hNR H.hNb (by omega) (by omega) (by omega) _ _ _⟩
end Go.Proofs.Ybulkaiac
