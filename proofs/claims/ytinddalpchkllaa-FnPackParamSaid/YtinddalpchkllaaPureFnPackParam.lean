/- It is proved that the law FnPackParam answers true: a packed parameter is unpacked to its value (2147483647: missing, the default is told) and to whether sub-parameters follow; for every number, default and flag, with no further condition. -/
import Derived.Test.YtinddalpchkllaaPFnPackParamx1
import Derived.Test.YtinddalpchkllaaBits
namespace Go.Proofs.Ytinddalpchkllaa.Pure
open Go.RowKit Go.Proofs.Ytinddalpchkllaa.PFnPackParam Go.Proofs.YtinddalpchkllaaW.PrintWords Go.Proofs.YtinddalpchkllaaW.PrintLast
open Go.Proofs.Ytinddalpchkllaa.B

theorem awake : laws_packAwake.f = some true := by
  unfold laws_packAwake.f impl_Pack.f xansi_Command.f
  decide +kernel

theorem packed (a : Int) (m : Bool) : ∃ n, impl_PackParam.f a m = some n ∧ Go.bits .and .i64 n 2147483647 = a % 2147483648 ∧ ((Go.bits .and .i64 n (-2147483648)) != 0) = m := by
  unfold impl_PackParam.f xansi_Parameter.f
  cases m with
  | false =>
    refine ⟨a % 2147483648, by rw [if_neg (by decide), and31]; rfl, ?_, ?_⟩
    · rw [and31]; omega
    · rw [hi31 _ (by omega) (by omega)]
      have : a % 2147483648 / 2147483648 * 2147483648 = 0 := by omega
      rw [this]; rfl
  | true =>
    have e : Go.bits .or .i64 (a % 2147483648) (-2147483648) = -2147483648 + a % 2147483648 := by
      rw [Go.Proofs.Ytinddalpchkllaa.B.or_comm, or_join 31 (-2147483648) (a % 2147483648) (by omega) (by omega) (by omega) (by decide) (by omega) (by rw [show ((2 ^ 31 : Nat) : Int) = 2147483648 from by decide]; omega)]
    refine ⟨-2147483648 + a % 2147483648, by rw [if_pos rfl, and31, e]; rfl, ?_, ?_⟩
    · rw [and31]; omega
    · rw [hi31 _ (by omega) (by omega)]
      have : (-2147483648 + a % 2147483648) / 2147483648 * 2147483648 = -2147483648 := by omega
      rw [this]; rfl

theorem FnPackParam : laws_FnPackParam.Pure := by
  intro a d m _ _
  obtain ⟨n, hn, h1, h2⟩ := packed a m
  unfold laws_FnPackParam.f
  rw [hn]
  unfold impl_UnpackParam.f spec_Or.f spec_More.f xansi_Param_HasMore.f xansi_Param_Param.f spec_Value.f
  simp only [Option.bind_some]
  rw [awake, h1, h2]
  simp only [and31]
  have hm : a % 2147483648 % 2147483648 = a % 2147483648 := by omega
  rw [hm]
  by_cases h : a % 2147483648 = 2147483647
  · simp [h]
  · simp [h]

end Go.Proofs.Ytinddalpchkllaa.Pure
