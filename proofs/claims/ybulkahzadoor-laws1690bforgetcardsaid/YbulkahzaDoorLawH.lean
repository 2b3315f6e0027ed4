/-
  What the walk of the law is told, and its small equations.
-/
import Derived.Test.YbulkahzaDoorCode
namespace Go.Proofs.YbulkahzaDoor
open Go.RowKit Go.Maps
set_option linter.unusedVariables false
/-- A version that says nothing yet. -/
abbrev zVer : Array Value := #[.int .u64 0, .int .i64 0, .slice none 0 0, .string eS, .int .u64 0, .string eS, .int .u64 0, .map none, .int .i64 0, .slice none 0 0, .int .i64 0, .int .i64 0, .int .u64 0, .map none, .string eS, .int .u64 0, .string eS, .string eS, .int .u64 0, .int .u64 0, .int .i64 0, .pointer none]
theorem sv87 (a : Addr) (v : Value) : storeVar 87 a v = bigStore 87 a v := rfl
theorem storeVer (w : World) (m : Nat) (kd : Int) : (bigStore 87 ⟨w.heap.size, 0, none⟩ (.agg (fileC m kd))).run Ybad.prog (w.alloc (.cells zVer 87)) = .ok () (w.alloc (.cells (fileC m kd) 87)) :=
  storeNew w 87 zVer (fileC m kd) rfl (by simp [Value.oneCell']) (by kernel_rfl)
/-- len of a map as one instruction. -/
def bigLen (ty : TypeId) (v : Value) : Sem Value := Builtin.len_ #[63] ty #[v]
theorem len63 (ty : TypeId) (v : Value) : Builtin.len_ #[63] ty #[v] = bigLen ty v := rfl

/-- What the walk is told of the items that came in. -/
structure Inp (w : World) (a0 : Option Addr) (n bc off : Nat) (G : Nat → Itm) : Prop where
  at0 : 0 < n → a0 = some ⟨bc, off, none⟩
  gap : ∀ i, i < n → w.cell? ⟨bc, off + i * 5, none⟩ = some (.int .u8 ((G i).gap : Int))
  st : ∀ i, i < n → w.cell? ⟨bc, off + i * 5 + 1, none⟩ = some (.int .u8 ((G i).st : Int))
  listed : ∀ i, i < n → w.cell? ⟨bc, off + i * 5 + 2, none⟩ = some (.bool (G i).listed)
  node : ∀ i, i < n → w.cell? ⟨bc, off + i * 5 + 3, none⟩ = some (.bool (G i).node)
  hist : ∀ i, i < n → w.cell? ⟨bc, off + i * 5 + 4, none⟩ = some (.int .u8 ((G i).hist : Int))
  lt : ∀ i, i < n → (G i).gap < 256 ∧ (G i).st < 256 ∧ (G i).hist < 256

theorem mkE (n : Nat) (hn : n ≤ 300) (W : World) : (Instr.makeSlice 66 (.int .i64 (n : Int)) (.int .i64 (n : Int))).run Ybad.prog W = .ok (.slice (some ⟨W.heap.size, 0, none⟩) n n) (W.alloc (.cells (madeCells #[.int .u64 0] n) 22)) :=
  run_make_row' 66 22 (.int .u64 0) 8 Ybad.underlying66 (by kernel_rfl) rfl .i64 .i64 n (by omega) (by omega) W
theorem mkN (n : Nat) (hn : n ≤ 300) (W : World) : (Instr.makeSlice 67 (.int .i64 (n : Int)) (.int .i64 (n : Int))).run Ybad.prog W = .ok (.slice (some ⟨W.heap.size, 0, none⟩) n n) (W.alloc (.cells (madeCells #[.string eS] n) 9)) :=
  run_make_row' 67 9 (.string eS) 16 Ybad.underlying67 (by kernel_rfl) rfl .i64 .i64 n (by omega) (by omega) W
end Go.Proofs.YbulkahzaDoor
