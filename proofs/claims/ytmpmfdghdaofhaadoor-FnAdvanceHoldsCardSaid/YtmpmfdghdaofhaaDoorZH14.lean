/- Texts of this claim, joined; what isn't needed is left out (wip/slim.py). -/
import Derived.Shelf.Spec.DecodeRune
import Derived.Test.YtmpmfdghdaofhaaDoorProg
namespace Go.Proofs
open Go.Shelf
def Tryd.lays32_ren : Go.Shelf.Ren := ⟨fun | 32 => 53 | 49 => 69 | n => n, fun | 30 => 27 | 21 => 21 | 3 => 3 | 0 => 0 | 5 => 5 | 4 => 4 | 33 => 96 | 66 => 103 | 25 => 73 | 69 => 106 | 68 => 105 | n => n, fun | 2 => 0 | 3 => 1 | n => n⟩
theorem Tryd.lays32 : Go.Proofs.Lays7.n32 Tryd.prog Tryd.lays32_ren := {
  mixed := by kernel_rfl
  f32 := Tryd.func53.trans (congrArg some (by kernel_rfl))
  f49 := Tryd.func69.trans (congrArg some (by kernel_rfl))
  t0 := Tryd.underlying0
  a0 := Tryd.isAgg0
  z0 := Tryd.sizeOf0
  v0 := Tryd.zeroValue0
  i0 := by kernel_rfl
  t3 := Tryd.underlying3
  a3 := Tryd.isAgg3
  z3 := Tryd.sizeOf3
  v3 := Tryd.zeroValue3
  i3 := by kernel_rfl
  t4 := Tryd.underlying4
  a4 := Tryd.isAgg4
  z4 := Tryd.sizeOf4
  v4 := Tryd.zeroValue4
  i4 := by kernel_rfl
  t5 := Tryd.underlying5
  a5 := Tryd.isAgg5
  z5 := Tryd.sizeOf5
  v5 := Tryd.zeroValue5
  i5 := by kernel_rfl
  t21 := Tryd.underlying21
  a21 := Tryd.isAgg21
  z21 := Tryd.sizeOf21
  v21 := Tryd.zeroValue21
  i21 := by kernel_rfl
  t25 := Tryd.underlying73
  a25 := Tryd.isAgg73
  z25 := Tryd.sizeOf73
  v25 := Tryd.zeroValue73
  i25 := by kernel_rfl
  t30 := Tryd.underlying27
  a30 := Tryd.isAgg27
  z30 := Tryd.sizeOf27
  v30 := Tryd.zeroValue27
  i30 := by kernel_rfl
  t33 := Tryd.underlying96
  a33 := Tryd.isAgg96
  z33 := Tryd.sizeOf96
  v33 := Tryd.zeroValue96
  i33 := by kernel_rfl
  t66 := Tryd.underlying103
  a66 := Tryd.isAgg103
  z66 := Tryd.sizeOf103
  t68 := Tryd.underlying105
  a68 := Tryd.isAgg105
  z68 := Tryd.sizeOf105
  v68 := Tryd.zeroValue105
  i68 := by kernel_rfl
  t69 := Tryd.underlying106
  a69 := Tryd.isAgg106
  z69 := Tryd.sizeOf106
  v69 := Tryd.zeroValue106
  i69 := by kernel_rfl
  g2 := by kernel_rfl
  g3 := by kernel_rfl }
end Go.Proofs
