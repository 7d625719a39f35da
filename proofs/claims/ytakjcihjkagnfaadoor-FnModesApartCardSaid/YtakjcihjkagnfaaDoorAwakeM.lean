/- The laws' own question ('a sequence is made') is answered yes; small facts on bounds and on code points of one byte. No memory. -/
import Derived.Test.YtakjcihjkagnfaaDoorPMx2
namespace Go.Proofs.YtakjcihjkagnfaaDoor.Aw
open Go Go.RowKit Go.Proofs.YtakjcihjkagnfaaDoor.PM Go.Proofs.YtakjcihjkagnfaaDoor.Or Go.Proofs.YtakjcihjkagnfaaDoorW.PrintWords Go.Proofs.YtakjcihjkagnfaaDoorW.PrintLast Go.Proofs.YtakjcihjkagnfaaDoorW.PrintMore

theorem itoa_two : strconv_Itoa.f 2 = some ⟨#[50]⟩ := by
  unfold strconv_Itoa.f
  rw [if_pos (by omega)]
  have e : Lib.itoa 2 = [50] := by decide +kernel
  rw [e]
theorem awake : laws_makeAwake.f = some true := by
  unfold laws_makeAwake.f impl_MakeNumber.f xansi_CursorUp.f
  rw [if_pos rfl, if_pos (by omega), itoa_two]
  simp only [Option.bind_some]
  decide +kernel

theorem wf_i64 {a : Int} (h : (Lit.int .i64 a).wf = true) : -9223372036854775808 ≤ a ∧ a ≤ 9223372036854775807 := by
  have h1 : (decide ((-9223372036854775808 : Int) ≤ a) && decide (a ≤ 9223372036854775807)) = true := h
  simp only [Bool.and_eq_true, decide_eq_true_eq] at h1
  omega
theorem wf_u8 {a : Int} (h : (Lit.int .u8 a).wf = true) : 0 ≤ a ∧ a < 256 := by
  have h1 : (decide ((0 : Int) ≤ a) && decide (a ≤ 255)) = true := h
  simp only [Bool.and_eq_true, decide_eq_true_eq] at h1
  omega

end Go.Proofs.YtakjcihjkagnfaaDoor.Aw
