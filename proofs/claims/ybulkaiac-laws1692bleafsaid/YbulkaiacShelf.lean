/-
  slices.Clone's contract laid at this program's two instances (made by the kit's tools).
-/
import Derived.Shelf.SlicesE.Clone
import Derived.Test.YbulkaiacProg
namespace Go.Proofs
open Go.Shelf
def Yba.lclone7_ren : Go.Shelf.Ren := ⟨fun | 41 => 7 | n => n, fun | 22 => 34 | 23 => 33 | 4 => 4 | n => n, fun | n => n⟩
theorem Yba.lclone7 : Go.Proofs.SlLaysE0.n41 Yba.prog Yba.lclone7_ren := {
  mixed := by kernel_rfl
  f41 := ⟨Yba.f7.name, by decide, Yba.func7.trans (congrArg some (by kernel_rfl))⟩
  t4 := Yba.underlying4
  a4 := Yba.isAgg4
  z4 := Yba.sizeOf4
  v4 := Yba.zeroValue4
  t22 := Yba.underlying34
  a22 := Yba.isAgg34
  z22 := Yba.sizeOf34
  v22 := Yba.zeroValue34 }
def Yba.lclone8_ren : Go.Shelf.Ren := ⟨fun | 41 => 8 | n => n, fun | 22 => 23 | 23 => 32 | 4 => 4 | n => n, fun | n => n⟩
theorem Yba.lclone8 : Go.Proofs.SlLaysE0.n41 Yba.prog Yba.lclone8_ren := {
  mixed := by kernel_rfl
  f41 := ⟨Yba.f8.name, by decide, Yba.func8.trans (congrArg some (by kernel_rfl))⟩
  t4 := Yba.underlying4
  a4 := Yba.isAgg4
  z4 := Yba.sizeOf4
  v4 := Yba.zeroValue4
  t22 := Yba.underlying23
  a22 := Yba.isAgg23
  z22 := Yba.sizeOf23
  v22 := Yba.zeroValue23 }
end Go.Proofs
