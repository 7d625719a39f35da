/- A byte as a code point in UTF-8: the reference's text is Go's own. -/
import Derived.Test.YtplmmblofhhikaaDoorPXx6
namespace Go.Proofs.YtplmmblofhhikaaDoor.Code
open Go Go.RowKit Go.Proofs.YtplmmblofhhikaaDoor.PX Go.Proofs.YtplmmblofhhikaaDoorW.PrintWords Go.Proofs.YtplmmblofhhikaaDoorW.PrintLast Go.Proofs.YtplmmblofhhikaaDoorW.PrintMore

theorem code (x : Int) (h0 : 0 ≤ x) (h1 : x < 256) : spec_madeCode.f x = some (Utf8.encode x) ∧ (Utf8.encode x).size ≤ 2 := by
  obtain ⟨u, rfl⟩ := Int.eq_ofNat_of_zero_le h0
  have key : ((List.range 256).all fun u => (match spec_madeCode.f (u : Int) with | some s => s.data.toList == (Utf8.encode (u : Int)).data.toList | none => false) && decide ((Utf8.encode (u : Int)).size ≤ 2)) = true := by decide +kernel
  have := List.all_eq_true.1 key u (List.mem_range.2 (by omega))
  simp only [Bool.and_eq_true, decide_eq_true_eq] at this
  obtain ⟨h1, h2⟩ := this
  refine ⟨?_, h2⟩
  clear h2 key
  generalize spec_madeCode.f (u : Int) = z at h1 ⊢
  generalize Utf8.encode (u : Int) = t at h1 ⊢
  cases z with
  | none => cases h1
  | some s =>
    have e : s.data.toList = t.data.toList := eq_of_beq h1
    congr 1
    exact ByteArray.ext (Array.toList_inj.1 e)
theorem size2 (x : Int) (h0 : 0 ≤ x) (h1 : x < 256) : (Utf8.encode x).size ≤ 2 := (code x h0 h1).2

end Go.Proofs.YtplmmblofhhikaaDoor.Code
