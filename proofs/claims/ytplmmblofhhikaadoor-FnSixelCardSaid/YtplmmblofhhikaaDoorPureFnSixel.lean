/- It is proved that the law FnSixel answers true: a sixel image has its three numbers and its payload; for all numbers and every payload of at most 4000 bytes (others are let pass), with no further condition. -/
import Derived.Test.YtplmmblofhhikaaDoorPGx3
import Derived.Test.YtplmmblofhhikaaDoorAwakeG
import Derived.Test.YtplmmblofhhikaaDoorDigG
namespace Go.Proofs.YtplmmblofhhikaaDoor.Pure
open Go Go.RowKit Go.Proofs.YtplmmblofhhikaaDoor.PG Go.Proofs.YtplmmblofhhikaaDoor.Or Go.Proofs.YtplmmblofhhikaaDoor.Aw Go.Proofs.YtplmmblofhhikaaDoor.Dig Go.Proofs.YtplmmblofhhikaaDoorW.PrintWords Go.Proofs.YtplmmblofhhikaaDoorW.PrintLast

theorem sown (l : List Int) (h : l.length ≤ 4000) : impl_own.f l = some l := by
  unfold impl_own.f
  rw [if_pos (by simp; omega), List.nil_append]
theorem sstr_size (a : List Int) : (strOfNums a).size = a.length := by simp [strOfNums, ByteArray.size]
theorem sstr_of (l : List Int) : (⟨(l.map fun x => UInt8.ofNat x.toNat).toArray⟩ : ByteArray) = strOfNums l := rfl
theorem above (n : Int) (h : In64 n) : spec_madeAbove.f 40 n (-1) = some (nonneg n) := by
  unfold spec_madeAbove.f nonneg
  by_cases h0 : n ≤ -1
  · rw [if_pos h0, if_neg (by omega)]
    rfl
  · rw [if_neg h0, if_pos (by omega), digits n h.1 h.2 40 (by omega)]
    rfl

theorem FnSixel : laws_FnSixel.Pure := by
  intro a b c l ha hb hc _ _ hl
  have ia : In64 a := wf_i64 ha
  have ib : In64 b := wf_i64 hb
  have ic : In64 c := wf_i64 hc
  refine ⟨40, ?_⟩
  unfold laws_FnSixel.f
  by_cases h1 : (l.length : Int) > 2147483647
  · rw [if_pos h1]
  rw [if_neg h1]
  by_cases h2 : (l.length : Int) > 4000
  · rw [if_pos h2, awake]; rfl
  rw [if_neg h2, awake]
  simp only [Option.bind_some, if_true]
  have hin : bytesIn l = true := by
    unfold bytesIn
    rw [List.all_eq_true]
    intro x hx
    have := wf_u8 (hl x hx)
    simp only [Bool.and_eq_true, decide_eq_true_eq]
    exact this
  have na := nonneg_size a ia
  have nb := nonneg_size b ib
  have zc := dgs_size c ic
  unfold impl_Sixel.f xansi_SixelGraphics.f spec_MadeSixel.f
  rw [sown l (by omega), Option.bind_some, if_pos ⟨ia, ib, ic, hin, by omega⟩, above a ia, above b ib]
  simp only [Option.bind_some]
  rw [sstr_size, if_pos (by omega), if_pos (by omega), if_pos (by omega)]
  have hd : spec_Digits.f 40 c = some (dgs c) := digits c ic.1 ic.2 40 (by omega)
  unfold sixelT sixelHead posTail
  rw [sstr_of]
  by_cases h3 : c > 0
  · rw [if_pos h3, if_pos (by omega), hd]
    simp only [Option.bind_some]
    rw [if_pos (by omega), if_pos (by omega), if_pos (by omega), if_pos (by omega), if_pos (by omega)]
    simp
  · have h3' : ¬ 0 < c := h3
    simp only [gt_iff_lt, h3', if_false]
    rw [if_pos (by omega), if_pos (by omega), if_pos (by omega), sx_empty]
    simp
end Go.Proofs.YtplmmblofhhikaaDoor.Pure
