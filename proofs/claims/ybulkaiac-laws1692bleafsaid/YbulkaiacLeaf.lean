/-
  The leaf law, walked.
-/
import Derived.Test.YbulkaiacSplitL
import Derived.Deep.RegionWith
import Derived.OpenShut
import Derived.WalkLawsBesides
namespace Go.Proofs.Ybulkaiac
open Go.RowKit
set_option linter.unusedVariables false

/-- The interface value that the law lays for the number x. -/
abbrev wrapped (x : Int) : Value := .iface 26 (.agg #[.int .i64 x])

set_option maxHeartbeats 1000000 in
set_option maxRecDepth 100000 in
theorem bis_same (x : Int) (hx : -32768 ≤ x ∧ x ≤ 32767) (w : World) :
    Calls Yba.prog 6 #[.agg #[wrapped x, .nilIface], .int .i16 x] w fun e w' => e = .returned (.bool true) ∧ Below w.heap.size w w' := by
  have hta : ∀ W, (Instr.typeAssert (.iface 26 (.agg #[.int .i64 x])) 28 26 true).run Yba.prog W = .ok (.tuple #[.agg #[.int .i64 x], .bool true]) W := fun W => by kernel_rfl
  have hn : ∀ W, (binOp .eql 30 .nilIface .nilIface).run Yba.prog W = .ok (.bool true) W := fun W => by kernel_rfl
  go_enter Yba.func6, Yba.ntmps6
  go_wp2
  go_ret
  exact ⟨rfl, ((Below.refl _ _).alloc (Nat.le_refl _) _).alloc (by simp) _⟩

theorem made23 (len : Nat) (hl : len ≤ 1024) (W : World) :
    (Instr.makeSlice 23 (.int .i64 (len : Int)) (.int .i64 (len : Int))).run Yba.prog W = .ok (.slice (some ⟨W.heap.size, 0, none⟩) len len) (W.alloc (.cells (madeCells #[nilI, nilI] (len * 2)) 32)) := by
  obtain ⟨i, hi, h1, h2, h3⟩ : ∃ i, Yba.prog.info? 32 = some i ∧ i.zero = some (.agg #[nilI, nilI]) ∧ i.size = 2 ∧ i.bytes = 32 := ⟨_, rfl, rfl, rfl, rfl⟩
  have h := run_make (P := Yba.prog) W 23 32 i (.agg #[nilI, nilI]) Yba.underlying23 hi h1 .i64 .i64 len len (by omega) (by omega) (by rw [h3]; omega) (by omega)
  rw [h2, show (Value.agg #[nilI, nilI]).cells = #[nilI, nilI] from rfl] at h
  simpa using h

/-- The cells of the k entries laid so far; nil behind. -/
def ent (xs : Nat → Int) (k : Nat) (j : Nat) : Value := if j % 2 = 0 ∧ j / 2 < k then wrapped (xs (j / 2)) else nilI

theorem ent_one (xs : Nat → Int) (k j : Nat) : (ent xs k j).oneCell' = true := by
  unfold ent
  split <;> rfl

theorem ent_even (xs : Nat → Int) (k i : Nat) (h : i < k) : ent xs k (i * 2) = wrapped (xs i) := by
  unfold ent
  rw [if_pos ⟨by omega, by omega⟩, show i * 2 / 2 = i by omega]
theorem ent_odd (xs : Nat → Int) (k i : Nat) : ent xs k (i * 2 + 1) = nilI := by
  unfold ent
  rw [if_neg (by omega)]
theorem ent_late (xs : Nat → Int) (k i : Nat) (h : k ≤ i) : ent xs k (i * 2) = nilI := by
  unfold ent
  rw [if_neg (by omega)]

/-- Behind k rounds. -/
structure LBuilt (len k : Nat) (xs : Nat → Int) (w wr : World) : Prop where
  below : Below w.heap.size w wr
  size : wr.heap.size = w.heap.size + 1
  back : wr.rowIs w.heap.size 32 (len * 2) (ent xs k)

theorem lbuilt_zero (len : Nat) (xs : Nat → Int) (w : World) : LBuilt len 0 xs w (w.alloc (.cells (madeCells #[nilI, nilI] (len * 2)) 32)) := by
  refine ⟨(Below.refl _ _).alloc (Nat.le_refl _) _, by simp, ?_⟩
  have h := World.rowIs_alloc w (madeCells #[nilI, nilI] (len * 2)) 32 (ent xs 0) (fun i hi => by
    rw [size_madeCells] at hi
    rw [ent, if_neg (by omega)]
    rcases Nat.mod_two_eq_zero_or_one i with h | h
    · simp [madeCells, hi, h]
    · simp [madeCells, hi, h])
  rw [size_madeCells] at h
  exact h

theorem lbuilt_step {len k : Nat} {xs : Nat → Int} {w wr : World} (h : LBuilt len k xs w wr) :
    LBuilt len (k + 1) xs w ((wr.setCell ⟨w.heap.size, k * 2, none⟩ (wrapped (xs k))).setCell ⟨w.heap.size, k * 2 + 1, none⟩ nilI) := by
  refine ⟨(h.below.setCell (Nat.le_refl _) _).setCell (Nat.le_refl _) _, by simp [World.setCell, h.size], ?_⟩
  refine ((h.back.set (k * 2) _).set (k * 2 + 1) _).congr fun i hi => ?_
  by_cases e : i = k * 2 + 1
  · subst e; simp [ent_odd]
  · by_cases e2 : i = k * 2
    · subst e2; simp [ent_even]
    · simp only [if_neg e, if_neg e2]
      unfold ent
      by_cases h1 : i % 2 = 0 ∧ i / 2 < k
      · rw [if_pos h1, if_pos (by omega)]
      · rw [if_neg h1, if_neg (by omega)]

theorem lpre_of_built {len : Nat} {xs : Nat → Int} {w wr : World} (h : LBuilt len len xs w wr) :
    LeafPre wr.heap.size w.heap.size len (ent xs len) (wr.alloc (.cells #[.slice (some ⟨w.heap.size, 0, none⟩) len len, nilS, .int .i64 len] 36)) := by
  have hs := h.size
  refine ⟨by omega, ?_, h.back.alloc _, ent_one xs len⟩
  exact World.rowIs_alloc wr #[.slice (some ⟨w.heap.size, 0, none⟩) len len, nilS, .int .i64 len] 36 _ (fun j hj => by
        simp at hj
        match j, hj with
        | 0, _ => rfl
        | 1, _ => rfl
        | 2, _ => rfl)

/-- What the last part of the leaf law reads: h the first half's length, m the second's. -/
structure LAfter (len h m : Nat) (nc : Int) (xs : Nat → Int) (N g cap : Nat) (w w2 : World) : Prop where
  below : Below w.heap.size w w2
  r0 : w2.cell? ⟨N + 1, 0, none⟩ = some (.slice (some ⟨g, 0, none⟩) m cap)
  r1 : w2.cell? ⟨N + 1, 1, none⟩ = some (.slice none 0 0)
  r2 : w2.cell? ⟨N + 1, 2, none⟩ = some (.int .i64 m)
  n0 : w2.cell? ⟨N, 0, none⟩ = some (.slice (some ⟨w.heap.size, 0, none⟩) h len)
  n1 : w2.cell? ⟨N, 1, none⟩ = some (.slice none 0 0)
  n2 : w2.cell? ⟨N, 2, none⟩ = some (.int .i64 nc)
  kept0 : ∀ i, i < h → w2.cell? ⟨w.heap.size, i * 2, none⟩ = some (wrapped (xs i))
  kept1 : ∀ i, i < h → w2.cell? ⟨w.heap.size, i * 2 + 1, none⟩ = some .nilIface
  gone0 : ∀ i, h ≤ i → i < len → w2.cell? ⟨w.heap.size, i * 2, none⟩ = some .nilIface
  gone1 : ∀ i, h ≤ i → i < len → w2.cell? ⟨w.heap.size, i * 2 + 1, none⟩ = some .nilIface
  moved0 : ∀ i, i < m → w2.cell? ⟨g, i * 2, none⟩ = some (wrapped (xs (h + i)))
  moved1 : ∀ i, i < m → w2.cell? ⟨g, i * 2 + 1, none⟩ = some .nilIface
  hm : h + m = len ∧ h = len / 2
  hnc : nc = h

theorem lafter_of {len : Nat} {xs : Nat → Int} {w wr w2 : World} (h : LBuilt len len xs w wr) {g cap : Nat}
    (M : LeafMid wr.heap.size w.heap.size (wr.alloc (.cells #[.slice (some ⟨w.heap.size, 0, none⟩) len len, nilS, .int .i64 len] 36)).heap.size len g (ent xs len) (fun i => if i < len / 2 * 2 then ent xs len i else nilI) (.slice (some ⟨w.heap.size, 0, none⟩) (len / 2) len) (.slice (some ⟨g, 0, none⟩) (len - len / 2) cap) (len - (len - len / 2 : Nat)) (len - len / 2 : Nat) (wr.alloc (.cells #[.slice (some ⟨w.heap.size, 0, none⟩) len len, nilS, .int .i64 len] 36)) w2) :
    ∃ h m nc, LAfter len h m nc xs wr.heap.size g cap w w2 := by
  have hs := h.size
  have hR := M.hR
  rw [World.size_alloc] at hR
  refine ⟨len / 2, len - len / 2, _, ?_, hR.cell (i := 0) (by omega), hR.cell (i := 1) (by omega), hR.cell (i := 2) (by omega), M.hN.cell (i := 0) (by omega), M.hN.cell (i := 1) (by omega), M.hN.cell (i := 2) (by omega), fun i hi => ?_, fun i hi => ?_, fun i h1 h2 => ?_, fun i h1 h2 => ?_, fun i hi => ?_, fun i hi => ?_, ⟨by omega, rfl⟩, by omega⟩
  · exact (h.below.alloc (by omega) _).trans (M.kept.toBelow (by omega) (Nat.le_refl _) (by simp; omega))
  · rw [M.hB.cell (by omega), if_pos (by omega), ent_even _ _ _ (by omega)]
  · rw [M.hB.cell (by omega), if_pos (by omega), ent_odd]
  · rw [M.hB.cell (by omega), if_neg (by omega)]
  · rw [M.hB.cell (by omega), if_neg (by omega)]
  · rw [M.hG (i * 2) (by omega), show len / 2 * 2 + i * 2 = (len / 2 + i) * 2 by omega, ent_even _ _ _ (by omega)]
  · rw [M.hG (i * 2 + 1) (by omega), show len / 2 * 2 + (i * 2 + 1) = (len / 2 + i) * 2 + 1 by omega, ent_odd]

set_option maxRecDepth 100000 in
theorem leaf_long (a0 : Option Addr) (len cap : Nat) (w : World) (hl : 1024 < len) :
    Calls Yba.prog 3 #[.slice a0 len cap] w fun e w' => e = .returned (.bool true) ∧ Below w.heap.size w w' := by
  have hi : (1024 : Int) < (len : Int) := by omega
  go_enter Yba.func3, Yba.ntmps3
  go_wp2
  go_ret
  exact ⟨rfl, Below.refl _ _⟩

set_option maxHeartbeats 4000000 in
set_option maxRecDepth 100000 in
theorem leaf_short (a0 : Option Addr) (len cap : Nat) (xs : Nat → Int) (bc off : Nat) (w : World) (hl : len ≤ 1024)
    (ha : 0 < len → a0 = some ⟨bc, off, none⟩) (hcell : ∀ i, i < len → w.cell? ⟨bc, off + i, none⟩ = some (.int .i16 (xs i))) (hxs : ∀ i, -(32768 : Int) ≤ xs i ∧ xs i ≤ 32767) :
    Calls Yba.prog 3 #[.slice a0 len cap] w fun e w' => e = .returned (.bool true) ∧ Below w.heap.size w w' := by
  have hmk := made23 len hl
  go_enter Yba.func3, Yba.ntmps3
  go_wp2
  clear hmk
  go_loopw [21] (fun i wr => ∃ k : Nat, k ≤ len ∧ i = .int .i64 k ∧ LBuilt len k xs w wr) (fun i _ => len - (intOf i).toNat)
  case atStart => exact ⟨0, Nat.zero_le _, rfl, lbuilt_zero len xs w⟩
  case round =>
    obtain ⟨k, hk, rfl, Bt⟩ := hrel
    by_cases hlt : k < len
    · obtain rfl := ha (by omega)
      have hc := hcell k hlt
      have hcb := hxs k
      have hbc := World.block_lt_of_cell? _ _ hc
      have hc1 : wr.cell? ⟨bc, off + k, none⟩ = some (.int .i16 (xs k)) := (Bt.below.cell (p := ⟨bc, off + k, none⟩) hbc).trans hc
      have hk1 : wr.cell? ⟨w.heap.size, k * 2, none⟩ = some .nilIface := (Bt.back.cell (by omega)).trans (by rw [ent_late _ _ _ (Nat.le_refl _)])
      have hk2 : wr.cell? ⟨w.heap.size, k * 2 + 1, none⟩ = some .nilIface := (Bt.back.cell (by omega)).trans (by rw [ent_odd])
      have hf1 : wr.frozen? ⟨w.heap.size, k * 2, none⟩ = false := Bt.back.frozen _
      have hf2 : wr.frozen? ⟨w.heap.size, k * 2 + 1, none⟩ = false := Bt.back.frozen _
      have Bn := lbuilt_step Bt
      generalize xs k = c at hc hcb hc1 Bn
      clear Bt hc hcell hxs
      go_wp2
      go_roundw
      case rel => exact ⟨k + 1, by omega, by go_num, Bn⟩
      case measure => simp [intOf]; omega
    · obtain rfl : k = len := by omega
      go_wp2_with fail
      refine (split_leaf wr.heap.size w.heap.size k (ent xs k) _ hl (lpre_of_built Bt)).mono ?_
      rintro e w2 ⟨rfl, g, cap2, Pp⟩
      obtain ⟨h, m, nc, A⟩ := lafter_of Bt Pp
      have hq34 : ∀ (w : World) (a : Option Addr) (n c n' c' : Nat), (binOp .neq 34 (.slice a n c) (.slice none n' c')).run Yba.prog w = .ok (.bool (!a.isNone)) w := fun w a n c n' c' => run_neq_slice_nil_any w 34 33 a n c n' c' Yba.underlying34
      have r0 := A.r0
      have r1 := A.r1
      have r2 := A.r2
      have n0 := A.n0
      have n1 := A.n1
      have n2 := A.n2
      have hhm := A.hm
      have hnc := A.hnc
      have b1 : ((h : Int) != (k : Int) / 2) = false := by simp; omega
      have b2 : ((m : Int) != (k : Int) - (k : Int) / 2) = false := by simp; omega
      have b3 : (nc != (k : Int) / 2) = false := by simp; omega
      have HHM := hide hhm
      clear Pp Bt hhm hnc
      simp only [World.size_alloc]
      go_wp2
      clear hq34 b1 b2 b3 r1 r2 n1 n2
      generalize wr.heap.size = N at A r0 n0 ⊢
      clear wr
      rw [show (k : Int) / 2 = (h : Int) by have := HHM.out; omega]
      go_loopw [10] (fun i wq => ∃ j : Nat, j ≤ h ∧ i = .int .i64 j ∧ Below w2.heap.size w2 wq) (fun i _ => h - (intOf i).toNat)
      case atStart => exact ⟨0, Nat.zero_le _, rfl, Below.refl _ _⟩
      case round =>
        obtain ⟨j, hj, rfl, Bq⟩ := hrel
        by_cases hlt : j < h
        · obtain rfl := ha (by have := HHM.out; omega)
          have hc := hcell j (by have := HHM.out; omega)
          have hcb := hxs j
          have hbc := World.block_lt_of_cell? _ _ hc
          have hc1 : wr.cell? ⟨bc, off + j, none⟩ = some (.int .i16 (xs j)) := cell_later Bq ((A.below.cell (p := ⟨bc, off + j, none⟩) hbc).trans hc)
          have hk0 : wr.cell? ⟨N, 0, none⟩ = some (.slice (some ⟨w.heap.size, 0, none⟩) h k) := cell_later Bq n0
          have hk1 : wr.cell? ⟨w.heap.size, j * 2, none⟩ = some (wrapped (xs j)) := cell_later Bq (A.kept0 j hlt)
          have hk2 : wr.cell? ⟨w.heap.size, j * 2 + 1, none⟩ = some .nilIface := cell_later Bq (A.kept1 j hlt)
          generalize xs j = c at hc hcb hc1 hk1
          have hi1 : (j : Int) < (h : Int) := by omega
          have hi2 : (j : Int) < (k : Int) := by have := HHM.out; omega
          clear hc hcell hxs A r0 n0
          go_wp2
          go_region_with (go_at_call 6; refine (bis_same _ hcb _).mono ?_; rintro e w5 ⟨rfl, hb5⟩)
          all_goals go_wp2
          all_goals
            go_roundw
            case rel => exact ⟨j + 1, by omega, by go_num, Bq.drew.trans (hb5.mono Bq.size)⟩
            case measure => simp [intOf]; omega
        · have hge : (h : Int) ≤ (j : Int) := by omega
          go_wp2
          clear hge hlt hj n0
          generalize hw3 : wr = w3 at Bq ⊢
          clear hw3 wr
          go_loopw [11] (fun i wq => ∃ j : Nat, j ≤ m ∧ i = .int .i64 ((h + j : Nat) : Int) ∧ Below w2.heap.size w2 wq) (fun i _ => k - (intOf i).toNat)
          case atStart => exact ⟨0, Nat.zero_le _, by have := HHM.out; congr 1, Bq⟩
          case round =>
            clear Bq
            obtain ⟨j3, hj, rfl, Bq⟩ := hrel
            by_cases hlt : j3 < m
            · obtain rfl := ha (by have := HHM.out; omega)
              have hc := hcell (h + j3) (by have := HHM.out; omega)
              have hcb := hxs (h + j3)
              have hbc := World.block_lt_of_cell? _ _ hc
              have hc1 : wr.cell? ⟨bc, off + (h + j3), none⟩ = some (.int .i16 (xs (h + j3))) := cell_later Bq ((A.below.cell (p := ⟨bc, off + (h + j3), none⟩) hbc).trans hc)
              have hk0 : wr.cell? ⟨N + 1, 0, none⟩ = some (.slice (some ⟨g, 0, none⟩) m cap2) := cell_later Bq r0
              have hk1 : wr.cell? ⟨g, j3 * 2, none⟩ = some (wrapped (xs (h + j3))) := cell_later Bq (A.moved0 j3 hlt)
              have hk2 : wr.cell? ⟨g, j3 * 2 + 1, none⟩ = some .nilIface := cell_later Bq (A.moved1 j3 hlt)
              have hg0' := A.gone0 (h + j3) (by omega) (by have := HHM.out; omega)
              have hg1' := A.gone1 (h + j3) (by omega) (by have := HHM.out; omega)
              generalize xs (h + j3) = c at hc hcb hc1 hk1
              have hi1 : (j3 : Int) < (m : Int) := by omega
              have hi2 : ((h + j3 : Nat) : Int) < (k : Int) := by have := HHM.out; omega
              clear hc hcell hxs A r0
              have hh1 : (h : Int) ≤ 1024 := by have := HHM.out; omega
              have hj1 : (j3 : Int) ≤ 1024 := by have := HHM.out; omega
              have hsub : (h : Int) + (j3 : Int) - (h : Int) = (j3 : Int) := by omega
              have hwj : IntKind.i64.wrap (j3 : Int) = (j3 : Int) := by rw [IntKind.wrap_i64]; omega
              have hq28 : ∀ W, (binOp .neq 28 .nilIface .nilIface).run Yba.prog W = .ok (.bool false) W := fun W => by kernel_rfl
              have hq30 : ∀ W, (binOp .neq 30 .nilIface .nilIface).run Yba.prog W = .ok (.bool false) W := fun W => by kernel_rfl
              go_wp2
              go_region_with (go_at_call 6; refine (bis_same _ hcb _).mono ?_; rintro e w5 ⟨rfl, hb5⟩)
              all_goals
                have hg5 : w5.cell? ⟨w.heap.size, (h + j3) * 2, none⟩ = some .nilIface := cell_later hb5 (cell_later Bq.drew hg0')
                have hg6 : w5.cell? ⟨w.heap.size, (h + j3) * 2 + 1, none⟩ = some .nilIface := cell_later hb5 (cell_later Bq.drew hg1')
              all_goals go_wp2
              all_goals
                go_roundw
                case rel => exact ⟨j3 + 1, by omega, by go_num, Bq.drew.trans (hb5.mono Bq.size)⟩
                case measure => simp [intOf]; omega
            · have hge : (k : Int) ≤ ((h + j3 : Nat) : Int) := by have := HHM.out; omega
              go_wp2
              go_ret
              exact ⟨rfl, A.below.trans (Bq.mono A.below.size)⟩
end Go.Proofs.Ybulkaiac
