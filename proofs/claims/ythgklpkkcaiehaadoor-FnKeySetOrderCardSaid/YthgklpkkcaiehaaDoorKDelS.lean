/- slices.DeleteFunc of ints: the shelf's contract, laid at this program (by lay-plain.mjs, with names for numbers). -/
import Derived.Shelf.SlicesE.DeleteFunc
import Derived.Lib.SliceRun
import Derived.Test.YthgklpkkcaiehaaDoorProg
namespace Go.Proofs
open Go.Shelf
def Tryd.lDel_ren : Go.Shelf.Ren := ⟨fun | 10 => 20 | 6 => 40 | n => n, fun | 22 => 47 | 23 => 3 | 25 => 55 | 3 => 3 | 4 => 4 | 0 => 0 | n => n, fun | n => n⟩
theorem Tryd.lDel : Go.Proofs.SlLaysH.n10 Tryd.prog Tryd.lDel_ren := {
  mixed := by kernel_rfl
  f6 := ⟨Tryd.f40.name, by decide, Tryd.func40.trans (congrArg some (by kernel_rfl))⟩
  f10 := ⟨Tryd.f20.name, by decide, Tryd.func20.trans (congrArg some (by kernel_rfl))⟩
  t0 := Tryd.underlying0
  a0 := Tryd.isAgg0
  z0 := Tryd.sizeOf0
  v0 := Tryd.zeroValue0
  t3 := Tryd.underlying3
  a3 := Tryd.isAgg3
  z3 := Tryd.sizeOf3
  v3 := Tryd.zeroValue3
  t4 := Tryd.underlying4
  a4 := Tryd.isAgg4
  z4 := Tryd.sizeOf4
  v4 := Tryd.zeroValue4
  t22 := Tryd.underlying47
  a22 := Tryd.isAgg47
  z22 := Tryd.sizeOf47
  v22 := Tryd.zeroValue47
  a23 := Tryd.isAgg3
  z23 := Tryd.sizeOf3
  t25 := Tryd.underlying55
  a25 := Tryd.isAgg55
  z25 := Tryd.sizeOf55
  v25 := Tryd.zeroValue55 }
end Go.Proofs
