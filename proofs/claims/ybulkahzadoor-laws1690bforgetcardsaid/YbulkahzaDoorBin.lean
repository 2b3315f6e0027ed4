/-
  'slices.BinarySearch' at []uint64.
-/
import Derived.Test.YbulkahzaDoorKept
namespace Go.Proofs.YbulkahzaDoor
open Go.RowKit Go.Maps
set_option linter.unusedVariables false

theorem isnan24 (a : Nat) (w : World) : Calls Ybad.prog 24 #[.int .u64 (a : Int)] w fun e w' => e = .returned (.bool false) ∧ w' = w := by
  go_enter Ybad.func24, Ybad.ntmps24
  go_wp2
  go_ret
  exact ⟨rfl, rfl⟩
theorem isnan32 (a : Nat) (w : World) : Calls Ybad.prog 32 #[.int .u64 (a : Int)] w fun e w' => e = .returned (.bool false) ∧ w' = w := by
  go_enter Ybad.func32, Ybad.ntmps32
  go_wp2
  go_ret
  exact ⟨rfl, rfl⟩
set_option maxRecDepth 100000 in
theorem less23 (a b : Nat) (w : World) : Calls Ybad.prog 23 #[.int .u64 (a : Int), .int .u64 (b : Int)] w fun e w' => e = .returned (.bool (decide (a < b))) ∧ w' = w := by
  go_enter Ybad.func23, Ybad.ntmps23
  go_wp2_with (go_at_call 32; refine (isnan32 _ _).mono ?_; rintro x w1 ⟨rfl, rfl⟩)
  go_ret
  exact ⟨by simp, rfl⟩

/-- What the search answers. -/
def BinPost (n t : Nat) (xs : Nat → Nat) (w : World) (e : Ending) (w' : World) : Prop := ∃ (p : Nat) (f : Bool), e = .returned (.tuple #[.int .i64 p, .bool f]) ∧ (f = true ↔ ∃ i, i < n ∧ xs i = t) ∧ w' = w

set_option maxHeartbeats 2000000 in
set_option maxRecDepth 100000 in
theorem bin_any (a0 : Option Addr) (g n cap t : Nat) (xs : Nat → Nat) (w : World) (hn : n ≤ 1024) (ha : 0 < n → a0 = some ⟨g, 0, none⟩) (hc : ∀ i, i < n → w.cell? ⟨g, i, none⟩ = some (.int .u64 (xs i : Int))) (hs : ∀ i j, i < j → j < n → xs i < xs j) :
    Calls Ybad.prog 16 #[.slice a0 n cap, .int .u64 (t : Int)] w (BinPost n t xs w) := by
  have HC := hide hc
  have HS := hide hs
  clear hc hs
  go_enter Ybad.func16, Ybad.ntmps16
  go_wp2
  go_loopw [7, 8] (fun i j wr => ∃ lo hi : Nat, lo ≤ hi ∧ hi ≤ n ∧ i = .int .i64 lo ∧ j = .int .i64 hi ∧ (∀ q, q < lo → xs q < t) ∧ (∀ q, hi ≤ q → q < n → t ≤ xs q) ∧ wr = w) (fun i j _ => (intOf j).toNat - (intOf i).toNat)
  case atStart => exact ⟨0, n, by omega, by omega, rfl, rfl, fun q h => by omega, fun q h1 h2 => by omega, rfl⟩
  case round =>
    obtain ⟨lo, hi, h1, h2, rfl, rfl, hl, hh, rfl⟩ := hrel
    have HL := hide hl
    have HH := hide hh
    clear hl hh
    by_cases hlt : lo < hi
    · obtain rfl := ha (by omega)
      have hm := HC.out ((lo + hi) / 2) (by omega)
      generalize hx : xs ((lo + hi) / 2) = x at hm
      have HXX := hide hx
      clear hx
      have hli : (lo : Int) < (hi : Int) := by omega
      by_cases hxt : x < t
      · have hd : decide (x < t) = true := decide_eq_true hxt
        go_wp2_with (go_at_call 23; refine (less23 x t wr).mono ?_; rintro e w1 ⟨rfl, rfl⟩)
        go_roundw
        case rel =>
          refine ⟨(lo + hi) / 2 + 1, hi, by omega, h2, by go_num, rfl, fun q hq => ?_, HH.out, by first | trivial | rfl⟩
          by_cases e : q = (lo + hi) / 2
          · rw [e, HXX.out]; exact hxt
          · have := HS.out q ((lo + hi) / 2) (by omega) (by omega); rw [HXX.out] at this; omega
        case measure => simp [intOf]; omega
      · have hd : decide (x < t) = false := decide_eq_false hxt
        go_wp2_with (go_at_call 23; refine (less23 x t wr).mono ?_; rintro e w1 ⟨rfl, rfl⟩)
        go_roundw
        case rel =>
          refine ⟨lo, (lo + hi) / 2, by omega, by omega, rfl, by go_num, HL.out, fun q hq hqn => ?_, by first | trivial | rfl⟩
          by_cases e : q = (lo + hi) / 2
          · rw [e, HXX.out]; omega
          · have := HS.out ((lo + hi) / 2) q (by omega) hqn; rw [HXX.out] at this; omega
        case measure => simp [intOf]; omega
    · obtain rfl : lo = hi := by omega
      by_cases hln : lo < n
      · obtain rfl := ha (by omega)
        have hm := HC.out lo hln
        generalize hx : xs lo = x at hm
        have HXX := hide hx
        clear hx
        have hli : (lo : Int) < (n : Int) := by omega
        by_cases hxt : x = t
        · subst hxt
          go_wp2
          go_ret2
          refine ⟨lo, true, rfl, ⟨fun _ => ⟨lo, hln, HXX.out⟩, fun _ => rfl⟩, rfl⟩
        · have hxi : (x : Int) ≠ (t : Int) := by omega
          have hxb : ((x : Int) == (t : Int)) = false := beq_eq_false_iff_ne.2 hxi
          go_wp2_with (go_at_call 24; refine (isnan24 _ wr).mono ?_; rintro e w1 ⟨rfl, rfl⟩)
          go_ret2
          refine ⟨lo, false, rfl, ⟨fun h => by simp at h, fun ⟨i, hi, he⟩ => ?_⟩, rfl⟩
          exfalso
          by_cases h3 : i < lo
          · have := HL.out i h3; omega
          · by_cases h4 : i = lo
            · subst h4; exact hxt (HXX.out.symm.trans he)
            · have h5 := HS.out lo i (by omega) hi
              have h6 := HH.out lo (by omega) hln
              omega
      · have hli : (n : Int) ≤ (lo : Int) := by omega
        go_wp2
        go_ret2
        refine ⟨lo, false, rfl, ⟨fun h => by simp at h, fun ⟨i, hi, he⟩ => ?_⟩, rfl⟩
        have := HL.out i (by omega)
        omega
end Go.Proofs.YbulkahzaDoor
