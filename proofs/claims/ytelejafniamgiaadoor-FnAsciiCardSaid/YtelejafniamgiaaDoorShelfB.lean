/- The library functions of this seat are those that the library's contracts were proved of: the tables of numbers, laid by the kit's own tool. -/
import Derived.Shelf.Strings.BuilderCap
import Derived.Shelf.Strings.Builder2Cap
import Derived.Shelf.Strings.BuilderK
import Derived.Shelf.Strings.MapAny
import Derived.Test.YtelejafniamgiaaDoorProg
namespace Go.Proofs
open Go.Shelf
def Tryd.lays241_ren : Go.Shelf.Ren := ⟨fun | 241 => 49 | 277 => 52 | n => n, fun | 70 => 56 | 3 => 3 | 0 => 0 | 72 => 58 | 37 => 23 | 5 => 5 | n => n, fun | n => n⟩
theorem Tryd.lays241 : Go.Proofs.Lays.n241 Tryd.prog Tryd.lays241_ren := {
  mixed := by kernel_rfl
  f241 := Tryd.func49.trans (congrArg some (by kernel_rfl))
  f277 := Tryd.func52.trans (congrArg some (by kernel_rfl))
  t0 := Tryd.underlying0
  a0 := Tryd.isAgg0
  z0 := Tryd.sizeOf0
  v0 := Tryd.zeroValue0
  t3 := Tryd.underlying3
  a3 := Tryd.isAgg3
  z3 := Tryd.sizeOf3
  v3 := Tryd.zeroValue3
  t37 := Tryd.underlying23
  a37 := Tryd.isAgg23
  z37 := Tryd.sizeOf23
  v37 := Tryd.zeroValue23
  t70 := Tryd.underlying56
  a70 := Tryd.isAgg56
  z70 := Tryd.sizeOf56
  v70 := Tryd.zeroValue56
  t72 := Tryd.underlying58
  a72 := Tryd.isAgg58
  z72 := Tryd.sizeOf58
  v72 := Tryd.zeroValue58 }
def Tryd.lays165_ren : Go.Shelf.Ren := ⟨fun | 165 => 41 | 240 => 48 | 241 => 49 | 276 => 51 | 277 => 52 | n => n, fun | 70 => 56 | 3 => 3 | 0 => 0 | 4 => 4 | 9 => 9 | 20 => 20 | 72 => 58 | 37 => 23 | 164 => 72 | 5 => 5 | n => n, fun | n => n⟩
theorem Tryd.lays165 : Go.Proofs.Lays.n165 Tryd.prog Tryd.lays165_ren := {
  mixed := by kernel_rfl
  f165 := Tryd.func41.trans (congrArg some (by kernel_rfl))
  f240 := Tryd.func48.trans (congrArg some (by kernel_rfl))
  f241 := Tryd.func49.trans (congrArg some (by kernel_rfl))
  f276 := Tryd.func51.trans (congrArg some (by kernel_rfl))
  f277 := Tryd.func52.trans (congrArg some (by kernel_rfl))
  t0 := Tryd.underlying0
  a0 := Tryd.isAgg0
  z0 := Tryd.sizeOf0
  v0 := Tryd.zeroValue0
  t3 := Tryd.underlying3
  a3 := Tryd.isAgg3
  z3 := Tryd.sizeOf3
  v3 := Tryd.zeroValue3
  t4 := Tryd.underlying4
  a4 := Tryd.isAgg4
  z4 := Tryd.sizeOf4
  v4 := Tryd.zeroValue4
  t9 := Tryd.underlying9
  a9 := Tryd.isAgg9
  z9 := Tryd.sizeOf9
  v9 := Tryd.zeroValue9
  t20 := Tryd.underlying20
  a20 := Tryd.isAgg20
  z20 := Tryd.sizeOf20
  v20 := Tryd.zeroValue20
  t37 := Tryd.underlying23
  a37 := Tryd.isAgg23
  z37 := Tryd.sizeOf23
  v37 := Tryd.zeroValue23
  t70 := Tryd.underlying56
  a70 := Tryd.isAgg56
  z70 := Tryd.sizeOf56
  v70 := Tryd.zeroValue56
  t72 := Tryd.underlying58
  a72 := Tryd.isAgg58
  z72 := Tryd.sizeOf58
  v72 := Tryd.zeroValue58
  t164 := Tryd.underlying72
  a164 := Tryd.isAgg72
  z164 := Tryd.sizeOf72
  v164 := Tryd.zeroValue72 }
def Tryd.lays169_ren : Go.Shelf.Ren := ⟨fun | 169 => 45 | n => n, fun | 70 => 56 | 9 => 9 | 0 => 0 | 72 => 58 | 37 => 23 | 127 => 69 | 3 => 3 | 5 => 5 | n => n, fun | n => n⟩
theorem Tryd.lays169 : Go.Proofs.Lays.n169 Tryd.prog Tryd.lays169_ren := {
  mixed := by kernel_rfl
  f169 := Tryd.func45.trans (congrArg some (by kernel_rfl))
  t0 := Tryd.underlying0
  a0 := Tryd.isAgg0
  z0 := Tryd.sizeOf0
  v0 := Tryd.zeroValue0
  t3 := Tryd.underlying3
  a3 := Tryd.isAgg3
  z3 := Tryd.sizeOf3
  v3 := Tryd.zeroValue3
  t9 := Tryd.underlying9
  a9 := Tryd.isAgg9
  z9 := Tryd.sizeOf9
  v9 := Tryd.zeroValue9
  t37 := Tryd.underlying23
  a37 := Tryd.isAgg23
  z37 := Tryd.sizeOf23
  v37 := Tryd.zeroValue23
  t70 := Tryd.underlying56
  a70 := Tryd.isAgg56
  z70 := Tryd.sizeOf56
  v70 := Tryd.zeroValue56
  t72 := Tryd.underlying58
  a72 := Tryd.isAgg58
  z72 := Tryd.sizeOf58
  v72 := Tryd.zeroValue58
  t127 := Tryd.underlying69
  a127 := Tryd.isAgg69
  z127 := Tryd.sizeOf69
  v127 := Tryd.zeroValue69 }
def Tryd.lays270_ren : Go.Shelf.Ren := ⟨fun | 270 => 43 | n => n, fun | 70 => 56 | 3 => 3 | 0 => 0 | 72 => 58 | 37 => 23 | 5 => 5 | n => n, fun | n => n⟩
theorem Tryd.lays270 : Go.Proofs.Lays.n270 Tryd.prog Tryd.lays270_ren := {
  mixed := by kernel_rfl
  f270 := Tryd.func43.trans (congrArg some (by kernel_rfl))
  t0 := Tryd.underlying0
  a0 := Tryd.isAgg0
  z0 := Tryd.sizeOf0
  v0 := Tryd.zeroValue0
  t3 := Tryd.underlying3
  a3 := Tryd.isAgg3
  z3 := Tryd.sizeOf3
  v3 := Tryd.zeroValue3
  t37 := Tryd.underlying23
  a37 := Tryd.isAgg23
  z37 := Tryd.sizeOf23
  v37 := Tryd.zeroValue23
  t70 := Tryd.underlying56
  a70 := Tryd.isAgg56
  z70 := Tryd.sizeOf56
  v70 := Tryd.zeroValue56
  t72 := Tryd.underlying58
  a72 := Tryd.isAgg58
  z72 := Tryd.sizeOf58
  v72 := Tryd.zeroValue58 }
end Go.Proofs
