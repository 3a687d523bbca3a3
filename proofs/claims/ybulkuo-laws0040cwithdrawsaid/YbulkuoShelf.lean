/- The laying of the shelf contract for slices.DeleteFunc at this dump, in plain words. -/
import Derived.Shelf.SlicesE.DeleteFunc
import Derived.Test.YbulkuoProg
namespace Go.Proofs
open Go.Shelf
def Yba.l6_ren : Go.Shelf.Ren := ⟨fun | 10 => 6 | 6 => 8 | n => n, fun | 22 => 56 | 23 => 24 | 25 => 98 | 3 => 3 | 4 => 4 | 0 => 0 | n => n, fun | n => n⟩
theorem Yba.l6 : Go.Proofs.SlLaysH.n10 Yba.prog Yba.l6_ren := {
  mixed := by kernel_rfl
  f6 := ⟨Yba.f8.name, by decide, Yba.func8.trans (congrArg some (by kernel_rfl))⟩
  f10 := ⟨Yba.f6.name, by decide, Yba.func6.trans (congrArg some (by kernel_rfl))⟩
  t0 := Yba.underlying0
  a0 := Yba.isAgg0
  z0 := Yba.sizeOf0
  v0 := Yba.zeroValue0
  t3 := Yba.underlying3
  a3 := Yba.isAgg3
  z3 := Yba.sizeOf3
  v3 := Yba.zeroValue3
  t4 := Yba.underlying4
  a4 := Yba.isAgg4
  z4 := Yba.sizeOf4
  v4 := Yba.zeroValue4
  t22 := Yba.underlying56
  a22 := Yba.isAgg56
  z22 := Yba.sizeOf56
  v22 := Yba.zeroValue56
  a23 := Yba.isAgg24
  z23 := Yba.sizeOf24
  t25 := Yba.underlying98
  a25 := Yba.isAgg98
  z25 := Yba.sizeOf98
  v25 := Yba.zeroValue98 }
end Go.Proofs
