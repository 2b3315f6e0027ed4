/-
  The library contracts used by this seat's proofs, laid at this program (made by the kit's lay-shelf and lay-plain tools; trimmed).
-/
import Derived.Shelf.Strconv.Itoa1
import Derived.Shelf.LaysM
import Derived.Shelf.Strconv.Itoa2
import Derived.Shelf.Strconv.Itoa3
import Derived.Test.YbulkahzaDoorRows
namespace Go.Proofs
open Go.Shelf
/-- The name of the table of powers of ten, as the given row lists it. -/
def Ybad.powName : String := YbulkahzaDoor.Rows.lawS1690AExactRow.named.headD ""
def Ybad.lays283_ren : Go.Shelf.Ren := ⟨fun | 283 => 25 | n => n, fun | 3 => 3 | 9 => 9 | 4 => 4 | n => n, fun | n => n⟩
theorem Ybad.lays283 : Go.Proofs.Lays.n283 Ybad.prog Ybad.lays283_ren := {
  mixed := by kernel_rfl
  f283 := Ybad.func25.trans (congrArg some (by kernel_rfl))
  t3 := Ybad.underlying3
  a3 := Ybad.isAgg3
  z3 := Ybad.sizeOf3
  v3 := Ybad.zeroValue3
  t4 := Ybad.underlying4
  a4 := Ybad.isAgg4
  z4 := Ybad.sizeOf4
  v4 := Ybad.zeroValue4
  t9 := Ybad.underlying9
  a9 := Ybad.isAgg9
  z9 := Ybad.sizeOf9
  v9 := Ybad.zeroValue9 }
open Go.Lib in
theorem Ybad.internal_strconv_small (i : Nat) (h : i < 100) (w : World) :
    Calls Ybad.prog 25 #[.int .i64 i] w fun e w' => e = .returned (.string ⟨(Lib.decDigits i).toArray⟩) ∧ w' = w := Any.internal_strconv_small Ybad.lays283 i h w
def Ybad.laysM284_ren : Go.Shelf.Ren := ⟨fun | 284 => 26 | 129 => 34 | 317 => 33 | 318 => 35 | n => n, fun | 53 => 22 | 3 => 3 | 212 => 126 | 0 => 0 | 4 => 4 | 46 => 112 | 5 => 5 | 9 => 9 | n => n, fun | 17 => 0 | n => n⟩
theorem Ybad.laysM284 : Go.Proofs.LaysM.n284 Ybad.prog Ybad.laysM284_ren := {
  mixed := by kernel_rfl
  f129 := Ybad.func34.trans (congrArg some (by kernel_rfl))
  f284 := Ybad.func26.trans (congrArg some (by kernel_rfl))
  f317 := Ybad.func33.trans (congrArg some (by kernel_rfl))
  f318 := Ybad.func35.trans (congrArg some (by kernel_rfl))
  t0 := Ybad.underlying0
  a0 := Ybad.isAgg0
  z0 := Ybad.sizeOf0
  v0 := Ybad.zeroValue0
  t3 := Ybad.underlying3
  a3 := Ybad.isAgg3
  z3 := Ybad.sizeOf3
  v3 := Ybad.zeroValue3
  t4 := Ybad.underlying4
  a4 := Ybad.isAgg4
  z4 := Ybad.sizeOf4
  v4 := Ybad.zeroValue4
  t5 := Ybad.underlying5
  a5 := Ybad.isAgg5
  z5 := Ybad.sizeOf5
  v5 := Ybad.zeroValue5
  t9 := Ybad.underlying9
  a9 := Ybad.isAgg9
  z9 := Ybad.sizeOf9
  v9 := Ybad.zeroValue9
  t46 := Ybad.underlying112
  a46 := Ybad.isAgg112
  z46 := Ybad.sizeOf112
  v46 := Ybad.zeroValue112
  t53 := Ybad.underlying22
  a53 := Ybad.isAgg22
  z53 := Ybad.sizeOf22
  v53 := Ybad.zeroValue22
  t212 := Ybad.underlying126
  a212 := Ybad.isAgg126
  z212 := Ybad.sizeOf126
  v212 := Ybad.zeroValue126
  g17 := by kernel_rfl
  i0 := by kernel_rfl
  i3 := by kernel_rfl
  i4 := by kernel_rfl
  i5 := by kernel_rfl
  i9 := by kernel_rfl
  i46 := by kernel_rfl
  i53 := by kernel_rfl
  i212 := by kernel_rfl
  m17 := by kernel_rfl }
open Go.Lib in
theorem Ybad.internal_strconv_numDigits (u : Nat) (h1 : 1 ≤ u) (h2 : u < 18446744073709551616) (w : World) (htab : Lib.TabIs Ybad.prog w Ybad.powName .u64 Lib.pow10Tab) :
    Calls Ybad.prog 26 #[.int .u64 u] w fun e w' => e = .returned (.int .i64 (Lib.nDigits u)) ∧ w' = w := Any.internal_strconv_numDigits Ybad.laysM284 u h1 h2 w htab
def Ybad.lays285_ren : Go.Shelf.Ren := ⟨fun | 285 => 27 | n => n, fun | 37 => 74 | 53 => 22 | 3 => 3 | 4 => 4 | 51 => 37 | 9 => 9 | 5 => 5 | 0 => 0 | n => n, fun | n => n⟩
theorem Ybad.lays285 : Go.Proofs.Lays.n285 Ybad.prog Ybad.lays285_ren := {
  mixed := by kernel_rfl
  f285 := Ybad.func27.trans (congrArg some (by kernel_rfl))
  t0 := Ybad.underlying0
  a0 := Ybad.isAgg0
  z0 := Ybad.sizeOf0
  v0 := Ybad.zeroValue0
  t3 := Ybad.underlying3
  a3 := Ybad.isAgg3
  z3 := Ybad.sizeOf3
  v3 := Ybad.zeroValue3
  t4 := Ybad.underlying4
  a4 := Ybad.isAgg4
  z4 := Ybad.sizeOf4
  v4 := Ybad.zeroValue4
  t5 := Ybad.underlying5
  a5 := Ybad.isAgg5
  z5 := Ybad.sizeOf5
  v5 := Ybad.zeroValue5
  t9 := Ybad.underlying9
  a9 := Ybad.isAgg9
  z9 := Ybad.sizeOf9
  v9 := Ybad.zeroValue9
  t37 := Ybad.underlying74
  a37 := Ybad.isAgg74
  z37 := Ybad.sizeOf74
  v37 := Ybad.zeroValue74
  t51 := Ybad.underlying37
  a51 := Ybad.isAgg37
  z51 := Ybad.sizeOf37
  v51 := Ybad.zeroValue37
  t53 := Ybad.underlying22
  a53 := Ybad.isAgg22
  z53 := Ybad.sizeOf22
  v53 := Ybad.zeroValue22 }
open Go.RowKit Go.Sort Go.Lib in
theorem Ybad.internal_strconv_formatBase10 (blk off cap : Nat) (u : Nat) (d : Array UInt8) (w : World) (hH : Holds (fun (b : UInt8) => Value.int .u8 (b.toNat : Int)) w blk off d) (hu : u < 10 ^ d.size) (hu64 : u < 18446744073709551616) (hsz : d.size < 4611686018427387904) :
    Calls Ybad.prog 27 #[.slice (some ⟨blk, off, none⟩) d.size cap, .int .u64 u] w fun e w' =>
      e = .returned (.tuple #[]) ∧ ∃ (n v' : Nat) (dk : Array UInt8), w' = (putRow (fun (b : UInt8) => Value.int .u8 (b.toNat : Int)) w blk off dk).drewN n ∧ FmtInv d.size u 0 v' dk := Any.internal_strconv_formatBase10 Ybad.lays285 blk off cap u d w hH hu hu64 hsz
def Ybad.laysM171_ren : Go.Shelf.Ren := ⟨fun | 171 => 7 | 243 => 10 | 246 => 18 | 283 => 25 | 284 => 26 | 285 => 27 | 286 => 28 | 129 => 34 | 317 => 33 | 318 => 35 | 319 => 36 | 320 => 37 | 337 => 43 | 338 => 44 | n => n, fun | 3 => 3 | 9 => 9 | 2 => 2 | 4 => 4 | 171 => 115 | 0 => 0 | 53 => 22 | 37 => 74 | 5 => 5 | 173 => 118 | 212 => 126 | 51 => 37 | 20 => 20 | 213 => 127 | 46 => 112 | 232 => 137 | 233 => 138 | n => n, fun | 17 => 0 | 18 => 1 | 19 => 2 | n => n⟩
theorem Ybad.laysM171 : Go.Proofs.LaysM.n171 Ybad.prog Ybad.laysM171_ren := {
  mixed := by kernel_rfl
  f129 := Ybad.func34.trans (congrArg some (by kernel_rfl))
  f171 := Ybad.func7.trans (congrArg some (by kernel_rfl))
  f243 := Ybad.func10.trans (congrArg some (by kernel_rfl))
  f246 := Ybad.func18.trans (congrArg some (by kernel_rfl))
  f283 := Ybad.func25.trans (congrArg some (by kernel_rfl))
  f284 := Ybad.func26.trans (congrArg some (by kernel_rfl))
  f285 := Ybad.func27.trans (congrArg some (by kernel_rfl))
  f286 := Ybad.func28.trans (congrArg some (by kernel_rfl))
  f317 := Ybad.func33.trans (congrArg some (by kernel_rfl))
  f318 := Ybad.func35.trans (congrArg some (by kernel_rfl))
  f319 := Ybad.func36.trans (congrArg some (by kernel_rfl))
  f320 := Ybad.func37.trans (congrArg some (by kernel_rfl))
  f337 := Ybad.func43.trans (congrArg some (by kernel_rfl))
  f338 := Ybad.func44.trans (congrArg some (by kernel_rfl))
  t0 := Ybad.underlying0
  a0 := Ybad.isAgg0
  z0 := Ybad.sizeOf0
  v0 := Ybad.zeroValue0
  t2 := Ybad.underlying2
  a2 := Ybad.isAgg2
  z2 := Ybad.sizeOf2
  v2 := Ybad.zeroValue2
  t3 := Ybad.underlying3
  a3 := Ybad.isAgg3
  z3 := Ybad.sizeOf3
  v3 := Ybad.zeroValue3
  t4 := Ybad.underlying4
  a4 := Ybad.isAgg4
  z4 := Ybad.sizeOf4
  v4 := Ybad.zeroValue4
  t5 := Ybad.underlying5
  a5 := Ybad.isAgg5
  z5 := Ybad.sizeOf5
  v5 := Ybad.zeroValue5
  t9 := Ybad.underlying9
  a9 := Ybad.isAgg9
  z9 := Ybad.sizeOf9
  v9 := Ybad.zeroValue9
  t20 := Ybad.underlying20
  a20 := Ybad.isAgg20
  z20 := Ybad.sizeOf20
  v20 := Ybad.zeroValue20
  t37 := Ybad.underlying74
  a37 := Ybad.isAgg74
  z37 := Ybad.sizeOf74
  v37 := Ybad.zeroValue74
  t46 := Ybad.underlying112
  a46 := Ybad.isAgg112
  z46 := Ybad.sizeOf112
  v46 := Ybad.zeroValue112
  t51 := Ybad.underlying37
  a51 := Ybad.isAgg37
  z51 := Ybad.sizeOf37
  v51 := Ybad.zeroValue37
  t53 := Ybad.underlying22
  a53 := Ybad.isAgg22
  z53 := Ybad.sizeOf22
  v53 := Ybad.zeroValue22
  t171 := Ybad.underlying115
  a171 := Ybad.isAgg115
  z171 := Ybad.sizeOf115
  v171 := Ybad.zeroValue115
  t173 := Ybad.underlying118
  a173 := Ybad.isAgg118
  z173 := Ybad.sizeOf118
  v173 := Ybad.zeroValue118
  t212 := Ybad.underlying126
  a212 := Ybad.isAgg126
  z212 := Ybad.sizeOf126
  v212 := Ybad.zeroValue126
  t213 := Ybad.underlying127
  a213 := Ybad.isAgg127
  z213 := Ybad.sizeOf127
  t232 := Ybad.underlying137
  a232 := Ybad.isAgg137
  z232 := Ybad.sizeOf137
  v232 := Ybad.zeroValue137
  t233 := Ybad.underlying138
  a233 := Ybad.isAgg138
  z233 := Ybad.sizeOf138
  v233 := Ybad.zeroValue138
  g17 := by kernel_rfl
  g18 := by kernel_rfl
  g19 := by kernel_rfl
  i0 := by kernel_rfl
  i2 := by kernel_rfl
  i3 := by kernel_rfl
  i4 := by kernel_rfl
  i5 := by kernel_rfl
  i9 := by kernel_rfl
  i20 := by kernel_rfl
  i37 := by kernel_rfl
  i46 := by kernel_rfl
  i51 := by kernel_rfl
  i53 := by kernel_rfl
  i171 := by kernel_rfl
  i173 := by kernel_rfl
  i212 := by kernel_rfl
  i232 := by kernel_rfl
  i233 := by kernel_rfl
  m17 := by kernel_rfl
  m18 := by kernel_rfl
  m19 := by kernel_rfl }
open Go.RowKit Go.Sort Go.Lib in
theorem Ybad.strconv_Itoa (n : Int) (h0 : -9223372036854775808 ≤ n) (h1 : n ≤ 9223372036854775807) (w : World) (htab : Lib.TabIs Ybad.prog w Ybad.powName .u64 Lib.pow10Tab) :
    Calls Ybad.prog 7 #[.int .i64 n] w fun e w' => e = .returned (.string ⟨(Lib.itoa n).toArray⟩) ∧ ∃ k os, w' = grow (w.drewN k) os := Any.strconv_Itoa Ybad.laysM171 n h0 h1 w htab
end Go.Proofs
