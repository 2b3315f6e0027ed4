/-
  Loads and stores of whole structs, by one equation each: no unrolling.
-/
import Derived.Test.YbulkahzaDoorKept
import Derived.Deep.MidRow
namespace Go.Proofs.YbulkahzaDoor
open Go.RowKit Go.Maps
set_option linter.unusedVariables false

def bigLoad (t : TypeId) (a : Addr) : Sem Value := loadVar t a
def bigStore (t : TypeId) (a : Addr) (v : Value) : Sem Unit := storeVar t a v
theorem lv87 (a : Addr) : loadVar 87 a = bigLoad 87 a := rfl
theorem lv89 (a : Addr) : loadVar 89 a = bigLoad 89 a := rfl
theorem sv89 (a : Addr) (v : Value) : storeVar 89 a v = bigStore 89 a v := rfl
theorem lv93 (a : Addr) : loadVar 93 a = bigLoad 93 a := rfl
theorem sv93 (a : Addr) (v : Value) : storeVar 93 a v = bigStore 93 a v := rfl

theorem load89_at {w : World} {b o : Nat} {nm : ByteArray} {e : Nat} {mA : Option Nat} (h : w.rangeAt b o (tombC nm e mA).toList) :
    (bigLoad 89 ⟨b, o, none⟩).run Ybad.prog w = .ok (.agg (tombC nm e mA)) w :=
  run_loadVar_mid w b o 89 (tombC nm e mA).toList _ h Ybad.underlying89 rfl (by kernel_rfl)
theorem load87_at {w : World} {b o : Nat} {nm : ByteArray} {e : Nat} {mA : Option Nat} (h : w.rangeAt b o (tombC nm e mA).toList) :
    (bigLoad 87 ⟨b, o + 1, none⟩).run Ybad.prog w = .ok (.agg (verC e mA)) w :=
  run_loadVar_mid w b (o + 1) 87 (verC e mA).toList _ (fun j v hv => by
    have := h (j + 1) v (by rw [show (tombC nm e mA).toList = Value.string nm :: (verC e mA).toList from rfl, List.getElem?_cons_succ]; exact hv)
    rw [show o + 1 + j = o + (j + 1) by omega]; exact this) Ybad.underlying87 rfl (by kernel_rfl)

/-- A block that holds just these cells. -/
theorem range_block {w : World} {b : Nat} {cs : Array Value} {t : TypeId} (h : w.heap[b]? = some (.cells cs t (0, 0))) : w.rangeAt b 0 cs.toList := fun j v hv => by
  rw [cell_of_row w b (0 + j) _ t (0, 0) h, Nat.zero_add, ← hv, Array.getElem?_toList]

end Go.Proofs.YbulkahzaDoor
