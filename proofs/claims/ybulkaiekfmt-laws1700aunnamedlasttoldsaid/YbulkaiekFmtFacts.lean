/-
  Closed facts for the walk over fmt's stopped front at this program (after the kit's worked example), and the contract of the one call of fmt.Errorf.
-/
import Derived.Test.YbulkaiekFmtProg
import Derived.Stop.CallBack
import Derived.Stop.IfaceNil
import Derived.WalkKit
import Derived.WalkSpells
import Derived.Below
import Derived.Outline
import GoSem.ClaimData
namespace Go.Proofs.YbulkaiekFmt
open Go.RowKit Go.Extern.Stop Go.Stop Go.Extern

/-- The format. -/
abbrev fmtS : ByteArray := ⟨#[37, 100, 58, 32, 114, 111, 111, 109, 32, 37, 115, 32, 104, 97, 115, 32, 110, 111, 32, 110, 97, 109, 101, 32, 61, 32, 108, 105, 110, 101]⟩

theorem call8 (args : Array Value) (w : World) : (callFunc 8 args).run Ybaf.prog w = ((FmtStop.errorf #[9, 38] #[27] args).run Ybaf.prog w).andThen fun v w' => .ok (.value v) w' :=
  run_callFunc_extern Ybaf.func8 (by kernel_rfl) (by kernel_rfl) (by kernel_rfl) (by kernel_rfl) args w
theorem guardF (name : String) (w : World) : (FmtStop.guard name).run Ybaf.prog w = .ok () w := by kernel_rfl
theorem fmt0 : FmtStop.printed? fmtS 2 = some [(0, 100, false), (1, 115, false)] := by kernel_rfl
theorem fmt0r (w : World) : (FmtDoors.printed fmtS 2).run Ybaf.prog w = .ok [(0, 100, false), (1, 115, false)] w := by kernel_rfl
theorem fmt1 : FmtStop.printed? fmtS 0 = some [] := by kernel_rfl
theorem fmt1r (w : World) : (FmtDoors.printed fmtS 0).run Ybaf.prog w = .ok [] w := by kernel_rfl
def shape9 : List UInt8 := [12, 6, 0, 0, 0, 0, 0, 0, 0, 115, 116, 114, 105, 110, 103]
theorem op9_115w (name : String) (x : ByteArray) (w : World) : (FmtStop.operand name true 115 false (.iface 9 (.string x))).run Ybaf.prog w = .ok (shape9, FmtStop.pack x.data.toList) w := by kernel_rfl
theorem op9_115 (name : String) (x : ByteArray) (w : World) : (FmtStop.operand name false 115 false (.iface 9 (.string x))).run Ybaf.prog w = .ok (shape9, FmtStop.pack x.data.toList) w := by kernel_rfl
theorem strict9 (name : String) (x : ByteArray) (w : World) : (FmtStop.strict name (.iface 9 (.string x))).run Ybaf.prog w = .ok (shape9, FmtStop.pack x.data.toList) w := by kernel_rfl
def shape3 : List UInt8 := [5, 3, 0, 0, 0, 0, 0, 0, 0, 105, 110, 116]
theorem op3_100w (name : String) (x : Int) (w : World) : (FmtStop.operand name true 100 false (.iface 3 (.int .i64 x))).run Ybaf.prog w = .ok (shape3, Go.Extern.Stop.digits 8 (x % 2 ^ 64).toNat) w := by kernel_rfl
theorem op3_100 (name : String) (x : Int) (w : World) : (FmtStop.operand name false 100 false (.iface 3 (.int .i64 x))).run Ybaf.prog w = .ok (shape3, Go.Extern.Stop.digits 8 (x % 2 ^ 64).toNat) w := by kernel_rfl
theorem strict3 (name : String) (x : Int) (w : World) : (FmtStop.strict name (.iface 3 (.int .i64 x))).run Ybaf.prog w = .ok (shape3, Go.Extern.Stop.digits 8 (x % 2 ^ 64).toNat) w := by kernel_rfl
theorem ptr41 (w : World) : (FmtStop.ptrTo "errors.errorString").run Ybaf.prog w = .ok 41 w := by kernel_rfl
theorem elem41 (w : World) : (elemOf 41).run Ybaf.prog w = .ok 43 w := by kernel_rfl
theorem isError41 (w : World) : (FmtDoors.textMethod 41 "Error").run Ybaf.prog w = .ok true w := by kernel_rfl

attribute [local go_sem] call8 guardF fmt0 fmt0r fmt1 fmt1r op9_115w op9_115 strict9 op3_100w op3_100 strict3 ptr41 elem41 isError41

set_option maxHeartbeats 1000000 in
set_option maxRecDepth 100000 in
theorem errorf_any (F : Interp) (n : Int) (id : ByteArray) (blk : Nat) (w : World) (hF : F.answers w.tape)
    (hc0 : w.cell? ⟨blk, 0, none⟩ = some (.iface 3 (.int .i64 n))) (hc1 : w.cell? ⟨blk, 1, none⟩ = some (.iface 9 (.string id))) :
    Calls Ybaf.prog 7 #[.string fmtS, .slice (some ⟨blk, 0, none⟩) 2 2] w fun e w' => (∃ a, e = .returned (.iface 41 (.pointer (some a)))) ∧ Below w.heap.size w w' := by
  have hF' : ∀ i name reading k range, w.tape i (.extern (word name reading k) range) = F name reading k := hF
  go_enter Ybaf.func7, Ybaf.ntmps7
  go_wp2
  go_ret
  exact ⟨⟨_, rfl⟩, ((Below.refl _ _).alloc (Nat.le_refl _) _).drew⟩
end Go.Proofs.YbulkaiekFmt
