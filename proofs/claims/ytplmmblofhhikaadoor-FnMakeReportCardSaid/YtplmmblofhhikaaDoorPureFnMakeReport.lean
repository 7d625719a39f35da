/- It is proved that the law FnMakeReport answers true: a mode's setting is reported by its sequence, a setting that there is not as 0; for every mode and every setting, with no further condition. -/
import Derived.Test.YtplmmblofhhikaaDoorPOx4
import Derived.Test.YtplmmblofhhikaaDoorAwakeO
import Derived.Test.YtplmmblofhhikaaDoorDigO
namespace Go.Proofs.YtplmmblofhhikaaDoor.Pure
open Go Go.RowKit Go.Proofs.YtplmmblofhhikaaDoor.PO Go.Proofs.YtplmmblofhhikaaDoor.Or Go.Proofs.YtplmmblofhhikaaDoor.Aw Go.Proofs.YtplmmblofhhikaaDoor.Dig Go.Proofs.YtplmmblofhhikaaDoorW.PrintWords Go.Proofs.YtplmmblofhhikaaDoorW.PrintLast

theorem same {x y : ByteArray} (h : x = y) : (x.toList == y.toList) = true := by rw [h]; simp

theorem FnMakeReport (b : Bool) (n v : Int) (hn : (Lit.int .i64 n).wf = true) (hv : (Lit.int .u8 v).wf = true) : ∃ k, laws_FnMakeReport.f k b n v = some true := by
  obtain ⟨h0, h1⟩ := wf_i64 hn
  obtain ⟨h2, h3⟩ := wf_u8 hv
  refine ⟨40, ?_⟩
  have e : spec_Digits.f 40 n = some (dig n) := digits n h0 h1 40 (by omega)
  have ez : spec_Digits.f 40 0 = some (dig 0) := digits 0 (by omega) (by omega) 40 (by omega)
  have wv : wrap64 v = v := by unfold wrap64; omega
  have ev : spec_Digits.f 40 v = some (dig v) := digits v (by omega) (by omega) 40 (by omega)
  have hs := dig_size n h0 h1
  have hsv := dig_size v (by omega) (by omega)
  have hsz := dig_size 0 (by omega) (by omega)
  have s1 : (⟨#[63]⟩ : ByteArray).size = 1 := rfl
  have s0 : (⟨#[]⟩ : ByteArray).size = 0 := rfl
  unfold laws_FnMakeReport.f impl_MakeReport.f spec_MadeReport.f spec_Mode_mark.f
  rw [awake, if_pos ⟨⟨h0, h1⟩, h2, by omega⟩, e, ez, wv, ev]
  by_cases hc : 4 < v
  · rw [if_pos hc, if_pos (by omega : v > 4)]
    cases b with
    | true =>
      simp only [Option.bind_some, if_true]
      rw [if_pos (by omega), if_pos (by omega), if_pos (by omega), if_pos (by omega), if_pos (by omega)]
      simp only [Option.bind_some]
      congr 1
      exact same (by apply ByteArray.ext; simp [ByteArray.data_append, txt, digs, dig])
    | false =>
      simp only [Option.bind_some, if_true, Bool.false_eq_true, if_false]
      rw [if_pos (by omega), if_pos (by omega), if_pos (by omega), if_pos (by omega), if_pos (by omega)]
      simp only [Option.bind_some]
      congr 1
      exact same (by apply ByteArray.ext; simp [ByteArray.data_append, txt, digs, dig])
  · rw [if_neg hc, if_neg (by omega : ¬ v > 4)]
    cases b with
    | true =>
      simp only [Option.bind_some, if_true]
      rw [if_pos (by omega), if_pos (by omega), if_pos (by omega), if_pos (by omega), if_pos (by omega)]
      simp only [Option.bind_some]
      congr 1
      exact same (by apply ByteArray.ext; simp [ByteArray.data_append, txt, digs, dig])
    | false =>
      simp only [Option.bind_some, if_true, Bool.false_eq_true, if_false]
      rw [if_pos (by omega), if_pos (by omega), if_pos (by omega), if_pos (by omega), if_pos (by omega)]
      simp only [Option.bind_some]
      congr 1
      exact same (by apply ByteArray.ext; simp [ByteArray.data_append, txt, digs, dig])

end Go.Proofs.YtplmmblofhhikaaDoor.Pure
