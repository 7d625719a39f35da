/- It is proved that the law FnConvertChannel answers true: a channel up to 65535 is converted to (a + 328) * 100 / 65535, which is at most 100, monotone, 0 at 0 and 100 at 65535; for every pair of 32-bit numbers, with no further condition. -/
import Derived.Test.YtjicpadeplminaaPFnConvertChannelx1
namespace Go.Proofs.Ytjicpadeplminaa.Pure
open Go.RowKit Go.Proofs.Ytjicpadeplminaa.PFnConvertChannel Go.Proofs.YtjicpadeplminaaW.PrintWords Go.Proofs.YtjicpadeplminaaW.PrintLast

theorem wf_u32 {a : Int} (h : (Lit.int .u32 a).wf = true) : 0 ≤ a ∧ a < 4294967296 := by
  have h1 : (decide ((0 : Int) ≤ a) && decide (a ≤ 4294967295)) = true := h
  simp only [Bool.and_eq_true, decide_eq_true_eq] at h1
  omega

theorem conv (a : Int) (h0 : 0 ≤ a) (h1 : a ≤ 65535) : impl_ConvertChannel.f a = some ((a + 328) * 100 / 65535) := by
  unfold impl_ConvertChannel.f sixel_ConvertChannel.f
  simp only [Option.bind_some]
  congr 1
  rw [Int.emod_eq_of_lt (by omega : 0 ≤ a + 328) (by omega), Int.emod_eq_of_lt (by omega) (by omega)]

theorem FnConvertChannel : laws_FnConvertChannel.Pure := by
  intro a b ha hb
  have ha := wf_u32 ha
  have hb := wf_u32 hb
  refine ⟨1, ?_⟩
  unfold laws_FnConvertChannel.f
  by_cases h1 : a > 65535
  · rw [if_pos h1]
    simp only [laws_FnConvertChannel.j0, if_true]
    rw [conv 65535 (by omega) (by omega)]
    decide
  rw [if_neg h1]
  simp only [laws_FnConvertChannel.j0]
  by_cases h2 : b > 65535
  · have e : decide (b > 65535) = true := by simpa using h2
    rw [e, if_pos rfl, conv 65535 (by omega) (by omega)]
    decide
  have e : decide (b > 65535) = false := by simpa using h2
  rw [e, if_neg (by decide), conv a (by omega) (by omega), conv b (by omega) (by omega), conv 65535 (by omega) (by omega), conv 0 (by omega) (by omega)]
  simp only [Option.bind_some]
  rw [Int.emod_eq_of_lt (by omega : 0 ≤ a + 328) (by omega), Int.emod_eq_of_lt (by omega) (by omega)]
  rw [if_pos rfl, if_pos (by omega)]
  by_cases h3 : a > b
  · rw [if_pos h3]; decide
  · rw [if_neg h3, if_pos (by omega)]; decide

end Go.Proofs.Ytjicpadeplminaa.Pure
