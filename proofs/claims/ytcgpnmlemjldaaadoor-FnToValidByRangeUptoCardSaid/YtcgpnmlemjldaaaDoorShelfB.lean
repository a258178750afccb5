/- The library functions of this seat are those that the library's contracts were proved of: the tables of numbers, laid by the kit's own tool. -/
import Derived.Shelf.Strings.BuilderCap
import Derived.Shelf.Strings.Builder2Cap
import Derived.Shelf.Strings.BuilderK
import Derived.Shelf.Strings.MapAny
import Derived.Test.YtcgpnmlemjldaaaDoorProg
namespace Go.Proofs
open Go.Shelf
def Tryd.lays241_ren : Go.Shelf.Ren := ⟨fun | 241 => 64 | 277 => 67 | n => n, fun | 70 => 63 | 3 => 3 | 0 => 0 | 72 => 65 | 37 => 22 | 5 => 5 | n => n, fun | n => n⟩
theorem Tryd.lays241 : Go.Proofs.Lays.n241 Tryd.prog Tryd.lays241_ren := {
  mixed := by kernel_rfl
  f241 := Tryd.func64.trans (congrArg some (by kernel_rfl))
  f277 := Tryd.func67.trans (congrArg some (by kernel_rfl))
  t0 := Tryd.underlying0
  a0 := Tryd.isAgg0
  z0 := Tryd.sizeOf0
  v0 := Tryd.zeroValue0
  t3 := Tryd.underlying3
  a3 := Tryd.isAgg3
  z3 := Tryd.sizeOf3
  v3 := Tryd.zeroValue3
  t37 := Tryd.underlying22
  a37 := Tryd.isAgg22
  z37 := Tryd.sizeOf22
  v37 := Tryd.zeroValue22
  t70 := Tryd.underlying63
  a70 := Tryd.isAgg63
  z70 := Tryd.sizeOf63
  v70 := Tryd.zeroValue63
  t72 := Tryd.underlying65
  a72 := Tryd.isAgg65
  z72 := Tryd.sizeOf65
  v72 := Tryd.zeroValue65 }
def Tryd.lays165_ren : Go.Shelf.Ren := ⟨fun | 165 => 55 | 240 => 63 | 241 => 64 | 276 => 66 | 277 => 67 | n => n, fun | 70 => 63 | 3 => 3 | 0 => 0 | 4 => 4 | 9 => 9 | 20 => 20 | 72 => 65 | 37 => 22 | 164 => 80 | 5 => 5 | n => n, fun | n => n⟩
theorem Tryd.lays165 : Go.Proofs.Lays.n165 Tryd.prog Tryd.lays165_ren := {
  mixed := by kernel_rfl
  f165 := Tryd.func55.trans (congrArg some (by kernel_rfl))
  f240 := Tryd.func63.trans (congrArg some (by kernel_rfl))
  f241 := Tryd.func64.trans (congrArg some (by kernel_rfl))
  f276 := Tryd.func66.trans (congrArg some (by kernel_rfl))
  f277 := Tryd.func67.trans (congrArg some (by kernel_rfl))
  t0 := Tryd.underlying0
  a0 := Tryd.isAgg0
  z0 := Tryd.sizeOf0
  v0 := Tryd.zeroValue0
  t3 := Tryd.underlying3
  a3 := Tryd.isAgg3
  z3 := Tryd.sizeOf3
  v3 := Tryd.zeroValue3
  t4 := Tryd.underlying4
  a4 := Tryd.isAgg4
  z4 := Tryd.sizeOf4
  v4 := Tryd.zeroValue4
  t9 := Tryd.underlying9
  a9 := Tryd.isAgg9
  z9 := Tryd.sizeOf9
  v9 := Tryd.zeroValue9
  t20 := Tryd.underlying20
  a20 := Tryd.isAgg20
  z20 := Tryd.sizeOf20
  v20 := Tryd.zeroValue20
  t37 := Tryd.underlying22
  a37 := Tryd.isAgg22
  z37 := Tryd.sizeOf22
  v37 := Tryd.zeroValue22
  t70 := Tryd.underlying63
  a70 := Tryd.isAgg63
  z70 := Tryd.sizeOf63
  v70 := Tryd.zeroValue63
  t72 := Tryd.underlying65
  a72 := Tryd.isAgg65
  z72 := Tryd.sizeOf65
  v72 := Tryd.zeroValue65
  t164 := Tryd.underlying80
  a164 := Tryd.isAgg80
  z164 := Tryd.sizeOf80
  v164 := Tryd.zeroValue80 }
def Tryd.lays169_ren : Go.Shelf.Ren := ⟨fun | 169 => 59 | n => n, fun | 70 => 63 | 9 => 9 | 0 => 0 | 72 => 65 | 37 => 22 | 127 => 78 | 3 => 3 | 5 => 5 | n => n, fun | n => n⟩
theorem Tryd.lays169 : Go.Proofs.Lays.n169 Tryd.prog Tryd.lays169_ren := {
  mixed := by kernel_rfl
  f169 := Tryd.func59.trans (congrArg some (by kernel_rfl))
  t0 := Tryd.underlying0
  a0 := Tryd.isAgg0
  z0 := Tryd.sizeOf0
  v0 := Tryd.zeroValue0
  t3 := Tryd.underlying3
  a3 := Tryd.isAgg3
  z3 := Tryd.sizeOf3
  v3 := Tryd.zeroValue3
  t9 := Tryd.underlying9
  a9 := Tryd.isAgg9
  z9 := Tryd.sizeOf9
  v9 := Tryd.zeroValue9
  t37 := Tryd.underlying22
  a37 := Tryd.isAgg22
  z37 := Tryd.sizeOf22
  v37 := Tryd.zeroValue22
  t70 := Tryd.underlying63
  a70 := Tryd.isAgg63
  z70 := Tryd.sizeOf63
  v70 := Tryd.zeroValue63
  t72 := Tryd.underlying65
  a72 := Tryd.isAgg65
  z72 := Tryd.sizeOf65
  v72 := Tryd.zeroValue65
  t127 := Tryd.underlying78
  a127 := Tryd.isAgg78
  z127 := Tryd.sizeOf78
  v127 := Tryd.zeroValue78 }
def Tryd.lays270_ren : Go.Shelf.Ren := ⟨fun | 270 => 57 | n => n, fun | 70 => 63 | 3 => 3 | 0 => 0 | 72 => 65 | 37 => 22 | 5 => 5 | n => n, fun | n => n⟩
theorem Tryd.lays270 : Go.Proofs.Lays.n270 Tryd.prog Tryd.lays270_ren := {
  mixed := by kernel_rfl
  f270 := Tryd.func57.trans (congrArg some (by kernel_rfl))
  t0 := Tryd.underlying0
  a0 := Tryd.isAgg0
  z0 := Tryd.sizeOf0
  v0 := Tryd.zeroValue0
  t3 := Tryd.underlying3
  a3 := Tryd.isAgg3
  z3 := Tryd.sizeOf3
  v3 := Tryd.zeroValue3
  t37 := Tryd.underlying22
  a37 := Tryd.isAgg22
  z37 := Tryd.sizeOf22
  v37 := Tryd.zeroValue22
  t70 := Tryd.underlying63
  a70 := Tryd.isAgg63
  z70 := Tryd.sizeOf63
  v70 := Tryd.zeroValue63
  t72 := Tryd.underlying65
  a72 := Tryd.isAgg65
  z72 := Tryd.sizeOf65
  v72 := Tryd.zeroValue65 }
end Go.Proofs
