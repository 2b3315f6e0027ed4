/-
  '(*keyList).search' and its closure.
-/
import Derived.Test.YbulkaiaqShelf
import Derived.Test.YbulkaiaqRows
import Derived.Lib.SmallJoins
import Derived.WalkKit
import Derived.WalkSpells
import Derived.Below
import Derived.Outline
import Derived.Deep.QuietTactic
import Derived.BigQuiet
namespace Go.Proofs.Ybulkaiaq
open Go.RowKit
set_option linter.unusedVariables false

theorem hide {p : Prop} (h : p) : Hid p := h

set_option maxRecDepth 100000 in
theorem less_any (a b : Int) (w : World) : Calls Yba.prog 52 #[.int .i64 a, .int .i64 b] w fun e w' => e = .returned (.bool (decide (a < b))) ∧ w' = w := by
  go_enter Yba.func52, Yba.ntmps52
  go_wp2
  go_ret
  exact ⟨rfl, rfl⟩

set_option maxHeartbeats 1000000 in
set_option maxRecDepth 100000 in
theorem closure_any (i n cap N g B1 B2 : Nat) (x k : Int) (w : World) (hi : i < n) (h1 : w.cell? ⟨B1, 0, none⟩ = some (.pointer (some ⟨N, 0, none⟩))) (h2 : w.cell? ⟨B2, 0, none⟩ = some (.int .i64 k))
    (h3 : w.cell? ⟨N, 0, none⟩ = some (.slice (some ⟨g, 0, none⟩) n cap)) (h4 : w.cell? ⟨g, i, none⟩ = some (.int .i64 x)) :
    Calls Yba.prog 17 #[.int .i64 i, .pointer (some ⟨B1, 0, none⟩), .pointer (some ⟨B2, 0, none⟩)] w fun e w' => e = .returned (.bool (!decide (x < k))) ∧ ∃ q, w' = w.drewN q := by
  have hii : (i : Int) < (n : Int) := by omega
  have hm : ∀ W, (method 182 26 (.int .i64 x) "example.com/stackloom/stackloom/store.less").run Yba.prog W = .ok (52, .int .i64 x) W := fun W => by kernel_rfl
  go_enter Yba.func17, Yba.ntmps17
  go_wp2
  go_quiet ((go_at_call 52; exact Calls.quiet_of_same (less_any _ _ _)))
  go_wp2
  go_ret
  exact ⟨rfl, nq, rfl⟩

/-- How many of xs lie below k. -/
def pos (xs : List Int) (k : Int) : Nat := (List.range xs.length).countP fun i => decide (xs.getD i 0 < k)

theorem enters17 : ∀ args w, (callFunc 17 args).run Yba.prog w = .ok (.enter 17 args) w := enters_of Yba.func17 (by kernel_rfl) rfl

theorem search16 (g : Nat) (cb : Array Value) (n : Nat) (p : Nat → Bool) (w : World) (eg : ∀ args w, (callFunc g args).run Yba.prog w = .ok (.enter g args) w) (hsz : n < 4611686018427387904)
    (hf : ∀ (m : Nat) (os : Array Obj) (i : Nat), i < n → Calls Yba.prog g (#[.int .i64 i] ++ cb) (Sort.grow (w.drewN m) os) fun e w' => e = .returned (.bool (p i)) ∧ ∃ q os', w' = Sort.grow ((Sort.grow (w.drewN m) os).drewN q) os')
    (hmono : ∀ a b, a ≤ b → b < n → p a = true → p b = true) :
    Calls Yba.prog 16 #[.int .i64 n, .func (.func g) #[] cb] w fun e w' => e = .returned (.int .i64 ((List.range n).countP (fun i => !p i) : Nat)) ∧ ∃ q os, w' = Sort.grow (w.drewN q) os :=
  Any.sort_Search Yba.lsearch g cb n p w eg hsz hf hmono

theorem grown_cell {w : World} {a : Addr} {v : Value} (h : w.cell? a = some v) (m : Nat) (os : Array Obj) : (Sort.grow (w.drewN m) os).cell? a = some v := by
  rw [Sort.cell?_grow (w.drewN m) os a (show a.block < w.heap.size from World.block_lt_of_cell? _ _ h)]
  exact h

set_option maxHeartbeats 1000000 in
set_option maxRecDepth 100000 in
theorem search_any (N g cap : Nat) (xs : List Int) (k : Int) (w : World) (hn : xs.length ≤ 1025) (hs : ∀ a b, a ≤ b → b < xs.length → xs.getD a 0 ≤ xs.getD b 0)
    (h3 : w.cell? ⟨N, 0, none⟩ = some (.slice (some ⟨g, 0, none⟩) xs.length cap)) (hc : ∀ i, i < xs.length → w.cell? ⟨g, i, none⟩ = some (.int .i64 (xs.getD i 0))) :
    Calls Yba.prog 12 #[.pointer (some ⟨N, 0, none⟩), .int .i64 k] w fun e w' => e = .returned (.int .i64 (pos xs k)) ∧ Below w.heap.size w w' := by
  have hb1 : ((w.alloc (.cells #[.pointer (some ⟨N, 0, none⟩)] 35)).alloc (.cells #[.int .i64 k] 26)).cell? ⟨w.heap.size, 0, none⟩ = some (.pointer (some ⟨N, 0, none⟩)) := cell_alloc_sl _ (cell_new_sl w _ _)
  have hb2 : ((w.alloc (.cells #[.pointer (some ⟨N, 0, none⟩)] 35)).alloc (.cells #[.int .i64 k] 26)).cell? ⟨w.heap.size + 1, 0, none⟩ = some (.int .i64 k) := by
    have := cell_new_sl (w.alloc (.cells #[.pointer (some ⟨N, 0, none⟩)] 35)) (.int .i64 k) 26
    rw [World.size_alloc] at this
    exact this
  have hsr := search16 17 #[.pointer (some ⟨w.heap.size, 0, none⟩), .pointer (some ⟨w.heap.size + 1, 0, none⟩)] xs.length (fun i => !decide (xs.getD i 0 < k)) ((w.alloc (.cells #[.pointer (some ⟨N, 0, none⟩)] 35)).alloc (.cells #[.int .i64 k] 26)) enters17 (by omega)
    (fun m os i hi => (closure_any i xs.length cap N g w.heap.size (w.heap.size + 1) (xs.getD i 0) k _ hi (grown_cell hb1 m os) (grown_cell hb2 m os) (grown_cell (cell_alloc_sl _ (cell_alloc_sl _ h3)) m os) (grown_cell (cell_alloc_sl _ (cell_alloc_sl _ (hc i hi))) m os)).mono fun e w' ⟨he, q, hq⟩ => ⟨he, q, #[], by rw [hq, Sort.grow_empty]⟩)
    (fun a b hab hb ha => by
      have := hs a b hab hb
      simp only [Bool.not_eq_true', decide_eq_false_iff_not] at ha ⊢
      omega)
  have HH := hide hsr
  have hNlt : N < w.heap.size := World.block_lt_of_cell? _ _ h3
  clear hc hs hb1 hb2 hsr
  go_enter Yba.func12, Yba.ntmps12
  go_wp2_with (go_at_call 16; refine HH.out.mono ?_; rintro e w' ⟨rfl, q, os, rfl⟩)
  go_ret
  refine ⟨?_, ?_⟩
  · simp [pos]
  · exact (((Below.refl _ _).alloc (Nat.le_refl _) _).alloc (by simp) _).trans (below_grown_sl _ _ q os (by simp; omega))
end Go.Proofs.Ybulkaiaq
