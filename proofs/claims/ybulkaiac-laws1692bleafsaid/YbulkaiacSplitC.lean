/-
  '(*arrayNode).split' where the node has children.
-/
import Derived.Test.YbulkaiacKit
import Derived.Lib.LazyBuf
import Derived.Outline
import Derived.LoopTactic
import Derived.RegionTactic
import Derived.ChangeAlike
import Derived.Deep.QuietTactic
import Derived.BigQuiet
namespace Go.Proofs.Ybulkaiac
open Go.RowKit
set_option linter.unusedVariables false

theorem clone7 (b off n c : Nat) (news : List Value) (w : World) (hl : news.length = n) (hn : n ≤ 1024)
    (hc : ∀ j u, news[j]? = some u → w.cell? ⟨b, off + j, none⟩ = some u) (h1 : ∀ u ∈ news, u.oneCell' = true) :
    Calls Yba.prog 7 #[.slice (some ⟨b, off, none⟩) n c] w fun e w' => ∃ v', e = .returned v' ∧ w'.ownsRow w.heap.size 33 1 v' n news ∧ v' ≠ .slice none 0 0 ∧ Below w.heap.size w w' :=
  AnyE.slices_Clone Yba.lclone7 _ (.pointer none) 1 8 rfl rfl rfl rfl rfl (by decide) (fun w => Yba.sizeOf33 w) b off n c news w (by omega) (by unfold maxLen; omega) (by omega) hc h1

theorem clear33 (w : World) (b L h : Nat) (f : Nat → Value) (hB : w.rowIs b 33 L f) (hh : h ≤ L) (ty : TypeId) (c : Nat) :
    (Builtin.clear_ #[34] ty #[.slice (some ⟨b, h, none⟩) (L - h) c]).run Yba.prog w = .ok (.tuple #[]) (w.setCells b h (List.replicate (L - h) (.pointer none))) := by
  by_cases hz : 0 < L - h
  · exact Lib.run_clear_slice w 34 33 ty (.pointer none) Yba.underlying34 Yba.zeroValue33 rfl rfl b h (L - h) c hz (fun j hj => by rw [hB.cell (by omega)]; rfl) (fun j _ => hB.frozen _)
  · have : L - h = 0 := by omega
    rw [this]
    simp [Builtin.clear_, run_underlying Yba.underlying34, World.setCells]

theorem cleared33 {w : World} {b L h : Nat} {f : Nat → Value} (hB : w.rowIs b 33 L f) (hh : h ≤ L) :
    (w.setCells b h (List.replicate (L - h) (.pointer none))).rowIs b 33 L (fun i => if i < h then f i else .pointer none) := by
  refine (rowIs_setCells (List.replicate (L - h) (.pointer none)) h w f hB).congr fun i hi => ?_
  rw [List.length_replicate]
  by_cases e : i < h
  · rw [if_neg (by omega), if_pos e]
  · rw [if_pos (by omega), if_neg e, List.getElem?_replicate, if_pos (by omega)]
    rfl

theorem addr_plain (b o j : Nat) : (⟨b, o, none⟩ : Addr).add j = ⟨b, o + j, none⟩ := by
  unfold Addr.add
  split
  · rename_i h; subst h; rfl
  · rfl

theorem slice_half (T e b L : Nat) (hT : Yba.prog.underlying T = some (.slice e)) (hs : ∀ w, (sizeOf e).run Yba.prog w = .ok 1 w) :
    ∀ W, (Instr.sliceAt T (.slice (some ⟨b, 0, none⟩) L L) (some (.int .i64 ((L : Int) / 2))) none none).run Yba.prog W = .ok (.slice (some ⟨b, L / 2, none⟩) (L - L / 2) (L - L / 2)) W := fun W => by
  have he : Yba.prog.elem T = e := by simp [Program.elem, hT]
  rw [run_sliceAt_slice W T _ _ _ _ (by rw [he]; exact hT), run_slice_l W T (some ⟨b, 0, none⟩) L L (by rw [he]; exact hT) .i64 ((L : Int) / 2) (by omega) (by omega), he, hs]
  have e2 : ((L : Int) / 2).toNat = L / 2 := by omega
  simp only [Result.andThen, sliced, e2, Nat.mul_one]
  by_cases hz : L = L / 2
  · have h0 : L = 0 := by omega
    subst h0; rfl
  · rw [if_neg hz]
    simp [addr_plain]

/-- What 'split' meets: a node N with L children behind block b. -/
structure SplitPre (N b L : Nat) (total : Int) (ci : Nat → Nat) (cnt : Nat → Int) (w : World) : Prop where
  hNb : N ≠ b
  hN : w.rowIs N 36 3 (node nilS (.slice (some ⟨b, 0, none⟩) L L) (.int .i64 total))
  hB : w.rowIs b 33 L (fun i => ptr (ci i))
  hC : ∀ i, i < L → w.rowIs (ci i) 36 3 (node nilS nilS (.int .i64 (cnt i)))
  hci : ∀ i, i < L → ci i ≠ N ∧ ci i ≠ b
  hcnt : ∀ i, -(2147483648 : Int) ≤ cnt i ∧ cnt i ≤ 2147483648
  ht : -(8796093022208 : Int) ≤ total ∧ total ≤ 8796093022208

/-- What 'split' leaves. -/
structure SplitPost (N b L : Nat) (total : Int) (ci : Nat → Nat) (cnt : Nat → Int) (g cap : Nat) (w w' : World) : Prop where
  kept : Kept2 N b w w'
  hN : w'.rowIs N 36 3 (node nilS (.slice (some ⟨b, 0, none⟩) (L / 2) L) (.int .i64 (total - sumR cnt (L / 2) (L - L / 2))))
  hB : w'.rowIs b 33 L (fun i => if i < L / 2 then ptr (ci i) else .pointer none)
  hR : w'.rowIs w.heap.size 36 3 (node nilS (.slice (some ⟨g, 0, none⟩) (L - L / 2) cap) (.int .i64 (sumR cnt (L / 2) (L - L / 2))))
  hG : ∀ i, i < L - L / 2 → w'.cell? ⟨g, i, none⟩ = some (ptr (ci (L / 2 + i)))

/-- Between: block R is the new node, its second cell 'ch', its count 's'; N's second cell 'nc'; b's cells 'f'. -/
structure Mid (N b R L g : Nat) (total : Int) (ci : Nat → Nat) (cnt : Nat → Int) (ch nc : Value) (s : Int) (f : Nat → Value) (w w' : World) : Prop where
  kept : Kept2 N b w w'
  hN : w'.rowIs N 36 3 (node nilS nc (.int .i64 total))
  hB : w'.rowIs b 33 L f
  hR : w'.rowIs R 36 3 (node nilS ch (.int .i64 s))
  hC : ∀ i, i < L → w'.rowIs (ci i) 36 3 (node nilS nilS (.int .i64 (cnt i)))
  hG : ∀ i, i < L - L / 2 → w'.cell? ⟨g, i, none⟩ = some (ptr (ci (L / 2 + i)))

theorem new_node (w : World) : (w.alloc (.cells #[nilS, nilS, .int .i64 0] 36)).rowIs w.heap.size 36 3 (node nilS nilS (.int .i64 0)) :=
  World.rowIs_alloc w _ 36 _ (fun i hi => by
    simp at hi
    match i, hi with
    | 0, _ => rfl
    | 1, _ => rfl
    | 2, _ => rfl)

/-- The clone, as 'split' calls it. -/
theorem clone_mid {N b L : Nat} {total : Int} {ci : Nat → Nat} {cnt : Nat → Int} {w : World} (hL : L ≤ 1024) (H : SplitPre N b L total ci cnt w) :
    Calls Yba.prog 7 #[.slice (some ⟨b, L / 2, none⟩) (L - L / 2) (L - L / 2)] (w.alloc (.cells #[nilS, nilS, .int .i64 0] 36)) fun e w' =>
      ∃ g cap, e = .returned (.slice (some ⟨g, 0, none⟩) (L - L / 2) cap) ∧ w.heap.size < g ∧ Mid N b w.heap.size L g total ci cnt nilS (.slice (some ⟨b, 0, none⟩) L L) 0 (fun i => ptr (ci i)) w w' := by
  refine (clone7 b (L / 2) (L - L / 2) (L - L / 2) ((List.range (L - L / 2)).map fun i => ptr (ci (L / 2 + i))) _ (by simp) (by omega) (fun j u hj => ?_) (fun u hu => ?_)).mono ?_
  · simp only [List.getElem?_map, Option.map_eq_some_iff] at hj
    obtain ⟨i, hi, rfl⟩ := hj
    obtain ⟨hlt, rfl⟩ := List.getElem?_eq_some_iff.1 hi
    simp only [List.getElem_range]
    exact (H.hB.alloc _).cell (by simp at hlt; omega)
  · simp only [List.mem_map] at hu
    obtain ⟨i, _, rfl⟩ := hu
    rfl
  rintro e w2 ⟨v', rfl, hown, hnn, hb2⟩
  obtain ⟨g, cap, rfl, hg1, hg2, hcap, hG⟩ := ownsRow_cells hown hnn
  refine ⟨g, cap, rfl, by have := hg1; simp at this; omega, ((Kept2.refl N b w).alloc _).below hb2, rowIs_below (H.hN.alloc _) hb2, rowIs_below (H.hB.alloc _) hb2, rowIs_below (new_node w) hb2, fun i hi => rowIs_below ((H.hC i hi).alloc _) hb2, fun i hi => ?_⟩
  exact hG i _ (by simp [hi])

/-- 'right.children = ..', then 'clear(..)'. -/
theorem mid_clear {N b L g cap : Nat} {total : Int} {ci : Nat → Nat} {cnt : Nat → Int} {w w2 : World} (H : SplitPre N b L total ci cnt w) (hg : w.heap.size < g)
    (M : Mid N b w.heap.size L g total ci cnt nilS (.slice (some ⟨b, 0, none⟩) L L) 0 (fun i => ptr (ci i)) w w2) :
    ∃ w4, (∀ ty, (Builtin.clear_ #[34] ty #[.slice (some ⟨b, L / 2, none⟩) (L - L / 2) (L - L / 2)]).run Yba.prog (w2.setCell ⟨w.heap.size, 1, none⟩ (.slice (some ⟨g, 0, none⟩) (L - L / 2) cap)) = .ok (.tuple #[]) w4) ∧
      Mid N b w.heap.size L g total ci cnt (.slice (some ⟨g, 0, none⟩) (L - L / 2) cap) (.slice (some ⟨b, 0, none⟩) L L) 0 (fun i => if i < L / 2 then ptr (ci i) else .pointer none) w w4 := by
  have hNlt := H.hN.lt
  have hblt := H.hB.lt
  have hB3 := M.hB.setOther (a := ⟨w.heap.size, 1, none⟩) (by simp; omega) (.slice (some ⟨g, 0, none⟩) (L - L / 2) cap)
  refine ⟨_, fun ty => clear33 _ b L (L / 2) _ hB3 (by omega) ty _, ?_⟩
  have hNb := H.hNb
  refine ⟨Kept2.setCells (Or.inr (Or.inl rfl)) _ _ _ (M.kept.setCell (Or.inr (Or.inr (by simp))) _), ?_, cleared33 hB3 (by omega), ?_, fun i hi => ?_, fun i hi => ?_⟩
  · exact rowIs_setCells_other (by omega) _ _ _ (M.hN.setOther (by simp; omega) _)
  · refine rowIs_setCells_other (by omega) _ _ _ ((M.hR.set 1 _).congr fun i hi => ?_)
    match i, hi with
    | 0, _ => rfl
    | 1, _ => rfl
    | 2, _ => rfl
  · have h1 := (H.hC i hi).lt
    exact rowIs_setCells_other (H.hci i hi).2 _ _ _ ((M.hC i hi).setOther (by simp; omega) _)
  · rw [World.cell?_setCells_out b _ _ _ _ (fun e _ => absurd e (by simp only; omega)), World.cell?_setCell_other _ _ _ _ (by simp)]
    exact M.hG i hi

theorem Mid.setN {N b R L g : Nat} {total s : Int} {ci : Nat → Nat} {cnt : Nat → Int} {ch nc : Value} {f : Nat → Value} {w w' : World} (M : Mid N b R L g total ci cnt ch nc s f w w') (hNb : N ≠ b) (hNR : N ≠ R) (hNg : N ≠ g) (hNc : ∀ i, i < L → ci i ≠ N) (v : Value) :
    Mid N b R L g total ci cnt ch v s f w (w'.setCell ⟨N, 1, none⟩ v) := by
  refine ⟨M.kept.setCell (Or.inl rfl) _, (M.hN.set 1 v).congr fun i hi => ?_, M.hB.setOther (by simp; omega) _, M.hR.setOther (by simp; omega) _, fun i hi => (M.hC i hi).setOther (hNc i hi) _, fun i hi => ?_⟩
  · match i, hi with
    | 0, _ => rfl
    | 1, _ => rfl
    | 2, _ => rfl
  · rw [World.cell?_setCell_other _ _ _ _ (by simp)]
    exact M.hG i hi

theorem Mid.setR {N b R L g : Nat} {total s : Int} {ci : Nat → Nat} {cnt : Nat → Int} {ch nc : Value} {f : Nat → Value} {w w' : World} (M : Mid N b R L g total ci cnt ch nc s f w w') (hRs : w.heap.size ≤ R) (hRb : b ≠ R) (hNR : N ≠ R) (hRg : g ≠ R) (hRc : ∀ i, i < L → ci i ≠ R) (s' : Int) :
    Mid N b R L g total ci cnt ch nc s' f w (w'.setCell ⟨R, 2, none⟩ (.int .i64 s')) := by
  refine ⟨M.kept.setCell (Or.inr (Or.inr hRs)) _, M.hN.setOther (by simp; omega) _, M.hB.setOther (by simp; omega) _, (M.hR.set 2 _).congr fun i hi => ?_, fun i hi => (M.hC i hi).setOther (hRc i hi) _, fun i hi => ?_⟩
  · match i, hi with
    | 0, _ => rfl
    | 1, _ => rfl
    | 2, _ => rfl
  · rw [World.cell?_setCell_other _ _ _ _ (by simp)]
    exact M.hG i hi

theorem Mid.drew {N b R L g : Nat} {total s : Int} {ci : Nat → Nat} {cnt : Nat → Int} {ch nc : Value} {f : Nat → Value} {w w' : World} (M : Mid N b R L g total ci cnt ch nc s f w w') : Mid N b R L g total ci cnt ch nc s f w w'.drew :=
  ⟨M.kept.drew, M.hN, M.hB, M.hR, M.hC, M.hG⟩

set_option maxHeartbeats 2000000 in
set_option maxRecDepth 100000 in
theorem split_children (N b L : Nat) (total : Int) (ci : Nat → Nat) (cnt : Nat → Int) (w : World) (hL : L ≤ 1024) (H : SplitPre N b L total ci cnt w) :
    Calls Yba.prog 5 #[ptr N] w fun e w' => e = .returned (ptr w.heap.size) ∧ ∃ g cap, SplitPost N b L total ci cnt g cap w w' := by
  have hN1 : w.cell? ⟨N, 1, none⟩ = some (.slice (some ⟨b, 0, none⟩) L L) := H.hN.cell (by omega)
  have hNlt := H.hN.lt
  have hNR : N ≠ w.heap.size := by omega
  have q34 : ∀ (w : World) (a : Option Addr) (n c n' c' : Nat), (binOp .neq 34 (.slice a n c) (.slice none n' c')).run Yba.prog w = .ok (.bool a.isSome) w := fun w a n c n' c' => by
    rw [run_neq_slice_nil_any w 34 33 a n c n' c' Yba.underlying34]; cases a <;> rfl
  have hsl := slice_half 34 33 b L Yba.underlying34 (fun w => Yba.sizeOf33 w)
  unfold ptr
  go_enter Yba.func5, Yba.ntmps5
  go_wp2_with (go_at_call 7; go_must (refine (clone_mid hL H).mono ?_); rintro e w2 ⟨g, cap, rfl, hg, M⟩; have hc2 : w2.cell? ⟨N, 1, none⟩ = some (.slice (some ⟨b, 0, none⟩) L L) := M.hN.cell (by omega); have hr2 : w2.cell? ⟨w.heap.size, 1, none⟩ = some (.slice none 0 0) := M.hR.cell (by omega); have hf2 : w2.frozen? ⟨w.heap.size, 1, none⟩ = false := M.hR.frozen 1; obtain ⟨w4, hcl, M4⟩ := mid_clear (cap := cap) H hg M; have hc4 : w4.cell? ⟨N, 1, none⟩ = some (.slice (some ⟨b, 0, none⟩) L L) := M4.hN.cell (by omega); have hf4 : w4.frozen? ⟨N, 1, none⟩ = false := M4.hN.frozen 1; have hr4 : w4.cell? ⟨w.heap.size, 1, none⟩ = some (.slice (some ⟨g, 0, none⟩) (L - L / 2) cap) := M4.hR.cell (by omega))
  clear hc2 hr2 hf2 hcl hc4 hf4 hr4 hN1 q34 hsl
  go_loopw [51] (fun i wr => ∃ k : Nat, k ≤ L - L / 2 ∧ i = .int .i64 k ∧ Mid N b w.heap.size L g total ci cnt (.slice (some ⟨g, 0, none⟩) (L - L / 2) cap) (.slice (some ⟨b, 0, none⟩) (L / 2) L) (sumR cnt (L / 2) k) (fun i => if i < L / 2 then ptr (ci i) else .pointer none) w wr) (fun i _ => (L - L / 2) - (intOf i).toNat)
  case atStart => exact ⟨0, Nat.zero_le _, rfl, M4.setN H.hNb hNR (by omega) (fun i hi => (H.hci i hi).1) _⟩
  case round =>
    obtain ⟨k, hk, rfl, Mr⟩ := hrel
    have hs := sumR_bound cnt (L / 2) 2147483648 H.hcnt k
    have hR2 : wr.cell? ⟨w.heap.size, 2, none⟩ = some (.int .i64 (sumR cnt (L / 2) k)) := Mr.hR.cell (by omega)
    have hRf : wr.frozen? ⟨w.heap.size, 2, none⟩ = false := Mr.hR.frozen 2
    by_cases hlt : k < L - L / 2
    · have hg1 : wr.cell? ⟨g, k, none⟩ = some (.pointer (some ⟨ci (L / 2 + k), 0, none⟩)) := Mr.hG k hlt
      have hc2 : wr.cell? ⟨ci (L / 2 + k), 2, none⟩ = some (.int .i64 (cnt (L / 2 + k))) := (Mr.hC (L / 2 + k) (by omega)).cell (by omega)
      have hcb := H.hcnt (L / 2 + k)
      have e1 : Hid (sumR cnt (L / 2) (k + 1) = sumR cnt (L / 2) k + cnt (L / 2 + k)) := rfl
      generalize cnt (L / 2 + k) = c at hc2 hcb e1
      generalize sumR cnt (L / 2) k = s at hs hR2 e1 Mr
      have hsz : (k : Int) < 1024 := by omega
      go_wp2
      go_region
      all_goals go_wp2
      all_goals go_roundw
      case rel =>
        refine ⟨k + 1, by omega, by go_num, ?_⟩
        rw [e1.out]
        exact (Mr.setR (Nat.le_refl _) (by have := H.hB.lt; omega) hNR (by omega) (fun i hi => by have := (H.hC i hi).lt; omega) _).drew
      case measure => simp [intOf]; omega
    · have hk2 : k = L - L / 2 := by omega
      have hN2 : wr.cell? ⟨N, 2, none⟩ = some (.int .i64 total) := Mr.hN.cell (by omega)
      have hNf : wr.frozen? ⟨N, 2, none⟩ = false := Mr.hN.frozen 2
      have ht := H.ht
      subst hk2
      generalize hS : sumR cnt (L / 2) (L - L / 2) = s at hs hR2 Mr
      have HS := hide hS
      clear hS
      go_wp2
      go_region
      all_goals go_wp2
      all_goals go_ret
      have hblt := H.hB.lt
      refine ⟨rfl, g, cap, (Mr.kept.setCell (Or.inl rfl) _).drew, ?_, ?_, ?_, fun i hi => ?_⟩
      · rw [HS.out]
        exact ((Mr.hN.set 2 _).congr fun i hi => by
          match i, hi with
          | 0, _ => rfl
          | 1, _ => rfl
          | 2, _ => rfl)
      · exact Mr.hB.setOther (a := ⟨N, 2, none⟩) (Ne.symm H.hNb) _
      · rw [HS.out]
        exact Mr.hR.setOther (a := ⟨N, 2, none⟩) (Ne.symm hNR) _
      · show (wr.setCell ⟨N, 2, none⟩ _).cell? _ = _
        rw [World.cell?_setCell_other _ _ _ _ (by simp)]
        exact Mr.hG i hi
end Go.Proofs.Ybulkaiac
