/-
  The children law, walked.
-/
import Derived.Test.YbulkaiacBuild
import Derived.Lib.Builder
import Derived.OpenShut
namespace Go.Proofs.Ybulkaiac
open Go.RowKit
set_option linter.unusedVariables false

set_option maxRecDepth 100000 in
theorem children_long (a0 : Option Addr) (len cap : Nat) (x : Int) (w : World) (hl : 1024 < len) :
    Calls Yba.prog 4 #[.slice a0 len cap, .int .i32 x] w fun e w' => e = .returned (.bool true) ∧ Below w.heap.size w w' := by
  have hi : (1024 : Int) < (len : Int) := by omega
  go_enter Yba.func4, Yba.ntmps4
  go_wp2
  go_ret
  exact ⟨rfl, Below.refl _ _⟩

theorem below_drewN {B : Nat} {w w' : World} (h : Below B w w') (q : Nat) : Below B w (w'.drewN q) := ⟨h.os, h.tape, h.output, h.size, h.block⟩

set_option maxHeartbeats 4000000 in
set_option maxRecDepth 100000 in
theorem children_short (a0 : Option Addr) (len cap : Nat) (x : Int) (cnt : Nat → Int) (bc off : Nat) (w : World) (hl : len ≤ 1024) (hx : -2147483648 ≤ x ∧ x ≤ 2147483647)
    (ha : 0 < len → a0 = some ⟨bc, off, none⟩) (hcell : ∀ i, i < len → w.cell? ⟨bc, off + i, none⟩ = some (.int .i32 (cnt i))) (hcnt : ∀ i, -(2147483648 : Int) ≤ cnt i ∧ cnt i ≤ 2147483647) :
    Calls Yba.prog 4 #[.slice a0 len cap, .int .i32 x] w fun e w' => e = .returned (.bool true) ∧ Below w.heap.size w w' := by
  have hmk := made34 len hl
  go_enter Yba.func4, Yba.ntmps4
  go_wp2
  clear hmk
  go_loopw [8, 32] (fun t i wr => ∃ k : Nat, k ≤ len ∧ i = .int .i64 k ∧ t = .int .i64 (x + sumR cnt 0 k) ∧ Built len k cnt w wr) (fun _ i _ => len - (intOf i).toNat)
  case atStart => exact ⟨0, Nat.zero_le _, rfl, by simp [sumR], built_zero len cnt w⟩
  case round =>
    obtain ⟨k, hk, rfl, rfl, Bt⟩ := hrel
    have hs := sumR_bound cnt 0 2147483648 (fun i => ⟨(hcnt i).1, by have := (hcnt i).2; omega⟩) k
    by_cases hlt : k < len
    · obtain rfl := ha (by omega)
      have hc := hcell k hlt
      have hcb := hcnt k
      have hbc := World.block_lt_of_cell? _ _ hc
      have hc1 : wr.cell? ⟨bc, off + k, none⟩ = some (.int .i32 (cnt k)) := (Bt.below.cell (p := ⟨bc, off + k, none⟩) hbc).trans hc
      have hk1 : wr.cell? ⟨w.heap.size, k, none⟩ = some (.pointer none) := (Bt.back.cell hlt).trans (by simp)
      have hk2 : wr.cell? ⟨w.heap.size + 1, k, none⟩ = some (.pointer none) := (Bt.orig.cell hlt).trans (by simp)
      have hf1 : wr.frozen? ⟨w.heap.size, k, none⟩ = false := Bt.back.frozen k
      have hf2 : wr.frozen? ⟨w.heap.size + 1, k, none⟩ = false := Bt.orig.frozen k
      have hl1 : w.heap.size < wr.heap.size := Bt.back.lt
      have hl2 : w.heap.size + 1 < wr.heap.size := Bt.orig.lt
      have Bn := built_step Bt
      have e1 : Hid (sumR cnt 0 (k + 1) = sumR cnt 0 k + cnt k) := by show sumR cnt 0 k + cnt (0 + k) = _; rw [Nat.zero_add]
      generalize sumR cnt 0 k = s at hs e1
      generalize cnt k = c at hc hcb hc1 Bn e1
      clear Bt hc hcell hcnt
      go_wp2
      go_roundw
      case rel =>
        refine ⟨k + 1, by omega, by go_num, ?_, ?_⟩
        · rw [e1.out]; congr 1; omega
        · exact Bn
      case measure => simp [intOf]; omega
    · obtain rfl : k = len := by omega
      go_wp2_with fail
      refine (split_children wr.heap.size w.heap.size k (x + sumR cnt 0 k) (fun i => w.heap.size + 2 + i) cnt _ hl (pre_of_built Bt _ hcnt ⟨by omega, by omega⟩)).mono ?_
      rintro e w2 ⟨rfl, g, cap2, Pp⟩
      have A := after_of Bt x Pp
      have hq23 : ∀ (w : World) (a : Option Addr) (n c n' c' : Nat), (binOp .neq 23 (.slice a n c) (.slice none n' c')).run Yba.prog w = .ok (.bool (!a.isNone)) w := fun w a n c n' c' => run_neq_slice_nil_any w 23 32 a n c n' c' Yba.underlying23
      have hq34 : ∀ (w : World) (a : Option Addr) (n c n' c' : Nat), (binOp .eql 34 (.slice a n c) (.slice none n' c')).run Yba.prog w = .ok (.bool a.isNone) w := fun w a n c n' c' => Lib.run_eql_slice_nil w 34 33 a n c n' c' Yba.underlying34
      have r0 := A.r0
      obtain ⟨m, hm⟩ : ∃ m, m = k - k / 2 := ⟨_, rfl⟩
      have r1 : w2.cell? ⟨wr.heap.size + 1, 1, none⟩ = some (.slice (some ⟨g, 0, none⟩) m cap2) := by rw [hm]; exact A.r1
      have hmb : ((m : Int) != (k : Int) - (k : Int) / 2) = false := by simp; omega
      have HM := hide hm
      clear hm
      have n1 := A.n1
      clear Pp Bt hs
      simp only [World.size_alloc]
      go_wp2
      clear hq23 hq34 r0
      go_loopw [15, 16] (fun t i wq => ∃ (q j : Nat), j ≤ k / 2 ∧ i = .int .i64 j ∧ t = .int .i64 (x + sumR cnt 0 j) ∧ wq = w2.drewN q) (fun _ i _ => k / 2 - (intOf i).toNat)
      case atStart => exact ⟨0, 0, Nat.zero_le _, rfl, by simp [sumR], rfl⟩
      case round =>
        obtain ⟨q, j, hj, rfl, rfl, rfl⟩ := hrel
        have hs := sumR_bound cnt 0 2147483648 (fun i => ⟨(hcnt i).1, by have := (hcnt i).2; omega⟩) j
        by_cases hlt : j < k / 2
        · obtain rfl := ha (by omega)
          have hc := hcell j (by omega)
          have hcb := hcnt j
          have hbc := World.block_lt_of_cell? _ _ hc
          have hc1 : w2.cell? ⟨bc, off + j, none⟩ = some (.int .i32 (cnt j)) := (A.below.cell (p := ⟨bc, off + j, none⟩) hbc).trans hc
          have hk1 : w2.cell? ⟨w.heap.size, j, none⟩ = some (.pointer (some ⟨w.heap.size + 2 + j, 0, none⟩)) := A.kept j hlt
          have hk2 : w2.cell? ⟨w.heap.size + 1, j, none⟩ = some (.pointer (some ⟨w.heap.size + 2 + j, 0, none⟩)) := A.orig j (by omega)
          have hne : ∀ W, (binOp .neq 33 (.pointer (some ⟨w.heap.size + 2 + j, 0, none⟩)) (.pointer (some ⟨w.heap.size + 2 + j, 0, none⟩))).run Yba.prog W = .ok (.bool false) W := fun W => Lib.run_neq_ptr_same W _ Yba.underlying33 (j := _) rfl
          have e1 : Hid (sumR cnt 0 (j + 1) = sumR cnt 0 j + cnt j) := by show sumR cnt 0 j + cnt (0 + j) = _; rw [Nat.zero_add]
          generalize sumR cnt 0 j = s at hs e1
          generalize cnt j = c at hc hcb hc1 e1
          have hi1 : (j : Int) < ((k / 2 : Nat) : Int) := by omega
          have hi2 : (j : Int) < (k : Int) := by omega
          clear hc hcell hcnt A
          go_wp2
          go_quiet (fail)
          go_wp2
          go_roundw
          case rel => exact ⟨q + nq, j + 1, by omega, by go_num, by rw [e1.out]; go_num, by simp⟩
          case measure => simp [intOf]; omega
        · have HJ : Hid (j = k / 2) := by show j = k / 2; omega
          have hge : (k : Int) / 2 ≤ (j : Int) := by omega
          go_wp2
          clear hlt hs hge hj
          go_loopw [17, 18] (fun t i wq => ∃ (q j : Nat), j ≤ k - k / 2 ∧ i = .int .i64 ((k / 2 + j : Nat) : Int) ∧ t = .int .i64 (sumR cnt (k / 2) j) ∧ wq = w2.drewN q) (fun _ i _ => k - (intOf i).toNat)
          case atStart => exact ⟨q, 0, Nat.zero_le _, by simp, by simp [sumR], rfl⟩
          case round =>
            obtain ⟨q, j2, hj, rfl, rfl, rfl⟩ := hrel
            have hs := sumR_bound cnt (k / 2) 2147483648 (fun i => ⟨(hcnt i).1, by have := (hcnt i).2; omega⟩) j2
            by_cases hlt : k / 2 + j2 < k
            · obtain rfl := ha (by omega)
              have hc := hcell (k / 2 + j2) (by omega)
              have hcb := hcnt (k / 2 + j2)
              have hbc := World.block_lt_of_cell? _ _ hc
              have hc1 : w2.cell? ⟨bc, off + (k / 2 + j2), none⟩ = some (.int .i32 (cnt (k / 2 + j2))) := (A.below.cell (p := ⟨bc, off + (k / 2 + j2), none⟩) hbc).trans hc
              have hk1 : w2.cell? ⟨g, j2, none⟩ = some (.pointer (some ⟨w.heap.size + 2 + (k / 2 + j2), 0, none⟩)) := by
                have := A.moved (k / 2 + j2) (by omega) (by omega)
                rw [show k / 2 + j2 - k / 2 = j2 by omega] at this
                exact this
              have hk2 : w2.cell? ⟨w.heap.size + 1, k / 2 + j2, none⟩ = some (.pointer (some ⟨w.heap.size + 2 + (k / 2 + j2), 0, none⟩)) := A.orig (k / 2 + j2) (by omega)
              have hk3 : w2.cell? ⟨w.heap.size, k / 2 + j2, none⟩ = some (.pointer none) := A.gone (k / 2 + j2) (by omega) (by omega)
              have hne : ∀ W, (binOp .neq 33 (.pointer (some ⟨w.heap.size + 2 + (k / 2 + j2), 0, none⟩)) (.pointer (some ⟨w.heap.size + 2 + (k / 2 + j2), 0, none⟩))).run Yba.prog W = .ok (.bool false) W := fun W => Lib.run_neq_ptr_same W _ Yba.underlying33 (j := _) rfl
              have e1 : Hid (sumR cnt (k / 2) (j2 + 1) = sumR cnt (k / 2) j2 + cnt (k / 2 + j2)) := rfl
              generalize sumR cnt (k / 2) j2 = s at hs e1
              generalize cnt (k / 2 + j2) = c at hc hcb hc1 e1
              have hjm : (j2 : Int) < (m : Int) := by have := HM.out; omega
              have hi2 : ((k / 2 + j2 : Nat) : Int) < (k : Int) := by omega
              clear hc hcell hcnt A
              go_wp2
              go_quiet (fail)
              go_wp2
              go_roundw
              case rel => exact ⟨q + nq, j2 + 1, by omega, by go_num, by rw [e1.out], by simp⟩
              case measure => simp [intOf]; omega
            · obtain rfl : j2 = k - k / 2 := by omega
              have r2 := A.r2
              have n2 : w2.cell? ⟨wr.heap.size, 2, none⟩ = some (.int .i64 (x + sumR cnt 0 j)) := by rw [HJ.out]; exact A.n2
              go_wp2
              go_ret
              exact ⟨rfl, below_drewN A.below q⟩
end Go.Proofs.Ybulkaiac
