/- It is proved that the law FnUnpackParam answers true: any number is unpacked by its 31 lowest bits and by whether any other bit is set; for every pair of numbers, with no further condition. -/
import Derived.Test.YtinddalpchkllaaPFnUnpackParamx1
import Derived.Test.YtinddalpchkllaaBits
namespace Go.Proofs.Ytinddalpchkllaa.Pure
open Go.RowKit Go.Proofs.Ytinddalpchkllaa.PFnUnpackParam Go.Proofs.YtinddalpchkllaaW.PrintWords Go.Proofs.YtinddalpchkllaaW.PrintLast
open Go.Proofs.Ytinddalpchkllaa.B

theorem awake : laws_packAwake.f = some true := by
  unfold laws_packAwake.f impl_Pack.f xansi_Command.f
  decide +kernel

theorem FnUnpackParam : laws_FnUnpackParam.Pure := by
  intro a d _ _
  unfold laws_FnUnpackParam.f impl_UnpackParam.f spec_Or.f spec_More.f xansi_Param_HasMore.f xansi_Param_Param.f spec_Value.f
  simp only [Option.bind_some]
  rw [awake]
  by_cases h : Go.bits .and .i64 a 2147483647 = 2147483647
  · simp [h]
  · simp [h]

end Go.Proofs.Ytinddalpchkllaa.Pure
