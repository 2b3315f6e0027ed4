/-
  'kept', and the release of an index that lists nothing.
-/
import Derived.Test.YbulkahzaDoorState
namespace Go.Proofs.YbulkahzaDoor
open Go.RowKit Go.Maps
set_option linter.unusedVariables false

set_option maxRecDepth 100000 in
theorem search0 (fv : Value) (w : World) : Calls Ybad.prog 39 #[.int .i64 0, fv] w fun e w' => e = .returned (.int .i64 0) ∧ w' = w := by
  go_enter Ybad.func39, Ybad.ntmps39
  go_wp2
  refine wp_loop_rounds 1 ?_
  rw [rounds_succ]
  go_wp2
  go_ret
  exact ⟨rfl, rfl⟩

set_option maxRecDepth 100000 in
theorem search_empty (S e : Nat) (w : World) (hc : w.cell? ⟨S, 16, none⟩ = some (.slice none 0 0)) :
    Calls Ybad.prog 30 #[.pointer (some ⟨S, 16, none⟩), .int .u64 (e : Int)] w fun x w' => x = .returned (.int .i64 0) ∧ Below w.heap.size w w' := by
  have hSl := World.block_lt_of_cell? _ _ hc
  go_enter Ybad.func30, Ybad.ntmps30
  go_wp2_with fail
  refine (search0 _ _).mono ?_
  rintro x w1 ⟨rfl, rfl⟩
  go_wp2
  go_ret
  exact ⟨rfl, ((Below.refl _ _).alloc (Nat.le_refl _) _).alloc (by simp) _⟩

set_option maxHeartbeats 1000000 in
set_option maxRecDepth 100000 in
theorem release_empty (S e : Nat) (w : World) (hc : w.cell? ⟨S, 16, none⟩ = some (.slice none 0 0)) :
    Calls Ybad.prog 21 #[.pointer (some ⟨S, 16, none⟩), .int .u64 (e : Int)] w fun x w' => x = .returned (.tuple #[]) ∧ Below w.heap.size w w' := by
  go_enter Ybad.func21, Ybad.ntmps21
  go_wp2_with fail
  refine (search_empty S e w hc).mono ?_
  rintro x w1 ⟨rfl, hB⟩
  go_wp2
  refine bodyPost_ret (results_none rfl _ _ _) rfl ?_
  exact ⟨rfl, hB⟩

theorem int_beq (x e : Nat) : ((x : Int) == (e : Int)) = (x == e) := by
  by_cases h : x = e
  · subst h; simp
  · have : (x : Int) ≠ (e : Int) := by omega
    rw [beq_eq_false_iff_ne.2 h, beq_eq_false_iff_ne.2 this]

theorem field87 (x : Nat) (kd : Int) (W : World) : (Instr.field 87 (.agg (fileC x kd)) 0).run Ybad.prog W = .ok (.int .u64 (x : Int)) W := by kernel_rfl

set_option maxHeartbeats 1000000 in
set_option maxRecDepth 100000 in
theorem kept_any (S et fo F C n e : Nat) (tv fv : Value) (g : Lit → Option Nat) (nm : ByteArray) (mA : Option Nat) (hs : nm.size ≤ maxLen) (w : World) (hS : StoreAt w S et fo F C tv fv) (hF : Files w F n g) :
    Calls Ybad.prog 12 #[.pointer (some ⟨S, 0, none⟩), .agg (tombC nm e mA)] w fun x w' => x = .returned (.bool ((g (kS nm)).getD 0 == e)) ∧ Below w.heap.size w w' := by
  obtain ⟨kd, hlk⟩ := ((hF.alloc (.cells (tombC nm e mA) 89)).drew).look nm hs
  have h15 := hS.cell 15
  have hSl := hS.lt
  generalize (g (kS nm)).getD 0 = x at hlk
  have hfd := field87
  clear hF hS
  go_enter Ybad.func12, Ybad.ntmps12
  go_wp2
  go_region
  all_goals go_wp2
  all_goals go_ret
  all_goals exact ⟨congrArg (fun b => Ending.returned (Value.bool b)) (int_beq x e), ((Below.refl _ _).alloc (Nat.le_refl _) _).drew⟩
end Go.Proofs.YbulkahzaDoor
