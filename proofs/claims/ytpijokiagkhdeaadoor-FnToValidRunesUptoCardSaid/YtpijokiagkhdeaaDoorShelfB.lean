/- The library functions of this seat are those that the library's contracts were proved of: the tables of numbers, laid by the kit's own tool. -/
import Derived.Shelf.Strings.BuilderCap
import Derived.Shelf.Strings.Builder2Cap
import Derived.Shelf.Strings.BuilderK
import Derived.Shelf.Strings.MapAny
import Derived.Test.YtpijokiagkhdeaaDoorProg
namespace Go.Proofs
open Go.Shelf
def Tryd.lays241_ren : Go.Shelf.Ren := ⟨fun | 241 => 68 | 277 => 71 | n => n, fun | 70 => 59 | 3 => 3 | 0 => 0 | 72 => 61 | 37 => 30 | 5 => 5 | n => n, fun | n => n⟩
theorem Tryd.lays241 : Go.Proofs.Lays.n241 Tryd.prog Tryd.lays241_ren := {
  mixed := by kernel_rfl
  f241 := Tryd.func68.trans (congrArg some (by kernel_rfl))
  f277 := Tryd.func71.trans (congrArg some (by kernel_rfl))
  t0 := Tryd.underlying0
  a0 := Tryd.isAgg0
  z0 := Tryd.sizeOf0
  v0 := Tryd.zeroValue0
  t3 := Tryd.underlying3
  a3 := Tryd.isAgg3
  z3 := Tryd.sizeOf3
  v3 := Tryd.zeroValue3
  t37 := Tryd.underlying30
  a37 := Tryd.isAgg30
  z37 := Tryd.sizeOf30
  v37 := Tryd.zeroValue30
  t70 := Tryd.underlying59
  a70 := Tryd.isAgg59
  z70 := Tryd.sizeOf59
  v70 := Tryd.zeroValue59
  t72 := Tryd.underlying61
  a72 := Tryd.isAgg61
  z72 := Tryd.sizeOf61
  v72 := Tryd.zeroValue61 }
def Tryd.lays165_ren : Go.Shelf.Ren := ⟨fun | 165 => 56 | 240 => 67 | 241 => 68 | 276 => 70 | 277 => 71 | n => n, fun | 70 => 59 | 3 => 3 | 0 => 0 | 4 => 4 | 9 => 9 | 20 => 20 | 72 => 61 | 37 => 30 | 164 => 83 | 5 => 5 | n => n, fun | n => n⟩
theorem Tryd.lays165 : Go.Proofs.Lays.n165 Tryd.prog Tryd.lays165_ren := {
  mixed := by kernel_rfl
  f165 := Tryd.func56.trans (congrArg some (by kernel_rfl))
  f240 := Tryd.func67.trans (congrArg some (by kernel_rfl))
  f241 := Tryd.func68.trans (congrArg some (by kernel_rfl))
  f276 := Tryd.func70.trans (congrArg some (by kernel_rfl))
  f277 := Tryd.func71.trans (congrArg some (by kernel_rfl))
  t0 := Tryd.underlying0
  a0 := Tryd.isAgg0
  z0 := Tryd.sizeOf0
  v0 := Tryd.zeroValue0
  t3 := Tryd.underlying3
  a3 := Tryd.isAgg3
  z3 := Tryd.sizeOf3
  v3 := Tryd.zeroValue3
  t4 := Tryd.underlying4
  a4 := Tryd.isAgg4
  z4 := Tryd.sizeOf4
  v4 := Tryd.zeroValue4
  t9 := Tryd.underlying9
  a9 := Tryd.isAgg9
  z9 := Tryd.sizeOf9
  v9 := Tryd.zeroValue9
  t20 := Tryd.underlying20
  a20 := Tryd.isAgg20
  z20 := Tryd.sizeOf20
  v20 := Tryd.zeroValue20
  t37 := Tryd.underlying30
  a37 := Tryd.isAgg30
  z37 := Tryd.sizeOf30
  v37 := Tryd.zeroValue30
  t70 := Tryd.underlying59
  a70 := Tryd.isAgg59
  z70 := Tryd.sizeOf59
  v70 := Tryd.zeroValue59
  t72 := Tryd.underlying61
  a72 := Tryd.isAgg61
  z72 := Tryd.sizeOf61
  v72 := Tryd.zeroValue61
  t164 := Tryd.underlying83
  a164 := Tryd.isAgg83
  z164 := Tryd.sizeOf83
  v164 := Tryd.zeroValue83 }
def Tryd.lays169_ren : Go.Shelf.Ren := ⟨fun | 169 => 60 | n => n, fun | 70 => 59 | 9 => 9 | 0 => 0 | 72 => 61 | 37 => 30 | 127 => 80 | 3 => 3 | 5 => 5 | n => n, fun | n => n⟩
theorem Tryd.lays169 : Go.Proofs.Lays.n169 Tryd.prog Tryd.lays169_ren := {
  mixed := by kernel_rfl
  f169 := Tryd.func60.trans (congrArg some (by kernel_rfl))
  t0 := Tryd.underlying0
  a0 := Tryd.isAgg0
  z0 := Tryd.sizeOf0
  v0 := Tryd.zeroValue0
  t3 := Tryd.underlying3
  a3 := Tryd.isAgg3
  z3 := Tryd.sizeOf3
  v3 := Tryd.zeroValue3
  t9 := Tryd.underlying9
  a9 := Tryd.isAgg9
  z9 := Tryd.sizeOf9
  v9 := Tryd.zeroValue9
  t37 := Tryd.underlying30
  a37 := Tryd.isAgg30
  z37 := Tryd.sizeOf30
  v37 := Tryd.zeroValue30
  t70 := Tryd.underlying59
  a70 := Tryd.isAgg59
  z70 := Tryd.sizeOf59
  v70 := Tryd.zeroValue59
  t72 := Tryd.underlying61
  a72 := Tryd.isAgg61
  z72 := Tryd.sizeOf61
  v72 := Tryd.zeroValue61
  t127 := Tryd.underlying80
  a127 := Tryd.isAgg80
  z127 := Tryd.sizeOf80
  v127 := Tryd.zeroValue80 }
def Tryd.lays270_ren : Go.Shelf.Ren := ⟨fun | 270 => 58 | n => n, fun | 70 => 59 | 3 => 3 | 0 => 0 | 72 => 61 | 37 => 30 | 5 => 5 | n => n, fun | n => n⟩
theorem Tryd.lays270 : Go.Proofs.Lays.n270 Tryd.prog Tryd.lays270_ren := {
  mixed := by kernel_rfl
  f270 := Tryd.func58.trans (congrArg some (by kernel_rfl))
  t0 := Tryd.underlying0
  a0 := Tryd.isAgg0
  z0 := Tryd.sizeOf0
  v0 := Tryd.zeroValue0
  t3 := Tryd.underlying3
  a3 := Tryd.isAgg3
  z3 := Tryd.sizeOf3
  v3 := Tryd.zeroValue3
  t37 := Tryd.underlying30
  a37 := Tryd.isAgg30
  z37 := Tryd.sizeOf30
  v37 := Tryd.zeroValue30
  t70 := Tryd.underlying59
  a70 := Tryd.isAgg59
  z70 := Tryd.sizeOf59
  v70 := Tryd.zeroValue59
  t72 := Tryd.underlying61
  a72 := Tryd.isAgg61
  z72 := Tryd.sizeOf61
  v72 := Tryd.zeroValue61 }
end Go.Proofs
