/- It is proved that the law FnUnpack answers true: of any number the final byte, the prefix and the intermediate are its three lowest bytes; for every number, with no further condition. -/
import Derived.Test.YtinddalpchkllaaPFnUnpackx1
import Derived.Test.YtinddalpchkllaaBits
namespace Go.Proofs.Ytinddalpchkllaa.Pure
open Go.RowKit Go.Proofs.Ytinddalpchkllaa.PFnUnpack Go.Proofs.YtinddalpchkllaaW.PrintWords Go.Proofs.YtinddalpchkllaaW.PrintLast
open Go.Proofs.Ytinddalpchkllaa.B

theorem awake : laws_packAwake.f = some true := by
  unfold laws_packAwake.f impl_Pack.f xansi_Command.f
  decide +kernel

theorem FnUnpack : laws_FnUnpack.Pure := by
  intro c _
  unfold laws_FnUnpack.f impl_Unpack.f impl_Packed.f xansi_Cmd_Prefix.f xansi_Cmd_Intermediate.f xansi_Cmd_Final.f parser_Prefix.f parser_Intermediate.f parser_Command.f
  simp only [Option.bind_some, and255]
  rw [awake]
  have q1 : c / 256 % 256 % 256 = c / 256 % 256 := by omega
  have q2 : c / 65536 % 256 % 256 = c / 65536 % 256 := by omega
  have q3 : c % 256 % 256 = c % 256 := by omega
  have e1 : wrap64 (c / 256 % 256) = c / 256 % 256 := w64 (by omega) (by omega)
  have e2 : wrap64 (c / 65536 % 256) = c / 65536 % 256 := w64 (by omega) (by omega)
  have e3 : wrap64 (c % 256) = c % 256 := w64 (by omega) (by omega)
  rw [q1, q2, q3, e1, e2, e3]
  simp

end Go.Proofs.Ytinddalpchkllaa.Pure
