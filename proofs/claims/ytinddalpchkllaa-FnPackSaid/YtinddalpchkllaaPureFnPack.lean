/- It is proved that the law FnPack answers true: a packed command is its final byte, its prefix and its intermediate joined, and is unpacked to these three again; for all three bytes, with no further condition. -/
import Derived.Test.YtinddalpchkllaaPFnPackx1
import Derived.Test.YtinddalpchkllaaBits
namespace Go.Proofs.Ytinddalpchkllaa.Pure
open Go.RowKit Go.Proofs.Ytinddalpchkllaa.PFnPack Go.Proofs.YtinddalpchkllaaW.PrintWords Go.Proofs.YtinddalpchkllaaW.PrintLast
open Go.Proofs.Ytinddalpchkllaa.B

theorem FnPack : laws_FnPack.Pure := by
  intro p i f hp hi hf
  have hp := wf_u8 hp
  have hi := wf_u8 hi
  have hf := wf_u8 hf
  have ep : wrap64 p = p := w64 (by omega) (by omega)
  have ei : wrap64 i = i := w64 (by omega) (by omega)
  have ef : wrap64 f = f := w64 (by omega) (by omega)
  have ep2 : wrap64 (p * 256) = p * 256 := w64 (by omega) (by omega)
  have ei2 : wrap64 (i * 65536) = i * 65536 := w64 (by omega) (by omega)
  have p8 : ((2 ^ 8 : Nat) : Int) = 256 := by decide
  have p16 : ((2 ^ 16 : Nat) : Int) = 65536 := by decide
  have e1 : Go.bits .or .i64 f (p * 256) = p * 256 + f := by
    rw [Go.Proofs.Ytinddalpchkllaa.B.or_comm, or_join 8 (p * 256) f (by omega) (by omega) (by omega) (by rw [p8]; omega) (by omega) (by omega)]
  have e2 : Go.bits .or .i64 (p * 256 + f) (i * 65536) = i * 65536 + (p * 256 + f) := by
    rw [Go.Proofs.Ytinddalpchkllaa.B.or_comm, or_join 16 (i * 65536) (p * 256 + f) (by omega) (by omega) (by omega) (by rw [p16]; omega) (by omega) (by omega)]
  unfold laws_FnPack.f impl_Pack.f xansi_Command.f
  rw [ep, ei, ef, ep2, ei2, e1, e2]
  simp only [Option.bind_some]
  unfold impl_Unpack.f impl_Packed.f xansi_Cmd_Prefix.f xansi_Cmd_Intermediate.f xansi_Cmd_Final.f parser_Prefix.f parser_Intermediate.f parser_Command.f
  simp only [Option.bind_some, and255]
  have q1 : (i * 65536 + (p * 256 + f)) / 256 % 256 = p := by omega
  have q2 : (i * 65536 + (p * 256 + f)) / 65536 % 256 = i := by omega
  have q3 : (i * 65536 + (p * 256 + f)) % 256 = f := by omega
  rw [q1, q2, q3]
  have r1 : p % 256 = p := by omega
  have r2 : i % 256 = i := by omega
  have r3 : f % 256 = f := by omega
  simp [r1, r2, r3]

end Go.Proofs.Ytinddalpchkllaa.Pure
