/- It is proved that the law FnMakeRequest answers true: a mode is requested by its sequence; for every mode, with no further condition. -/
import Derived.Test.YtplmmblofhhikaaDoorPOx3
import Derived.Test.YtplmmblofhhikaaDoorAwakeO
import Derived.Test.YtplmmblofhhikaaDoorDigO
namespace Go.Proofs.YtplmmblofhhikaaDoor.Pure
open Go Go.RowKit Go.Proofs.YtplmmblofhhikaaDoor.PO Go.Proofs.YtplmmblofhhikaaDoor.Or Go.Proofs.YtplmmblofhhikaaDoor.Aw Go.Proofs.YtplmmblofhhikaaDoor.Dig Go.Proofs.YtplmmblofhhikaaDoorW.PrintWords Go.Proofs.YtplmmblofhhikaaDoorW.PrintLast

theorem same {x y : ByteArray} (h : x = y) : (x.toList == y.toList) = true := by rw [h]; simp

theorem FnMakeRequest (b : Bool) (n : Int) (hn : (Lit.int .i64 n).wf = true) : ∃ k, laws_FnMakeRequest.f k b n = some true := by
  obtain ⟨h0, h1⟩ := wf_i64 hn
  refine ⟨40, ?_⟩
  have e : spec_Digits.f 40 n = some (dig n) := digits n h0 h1 40 (by omega)
  have hs := dig_size n h0 h1
  have s1 : (⟨#[63]⟩ : ByteArray).size = 1 := rfl
  have s0 : (⟨#[]⟩ : ByteArray).size = 0 := rfl
  unfold laws_FnMakeRequest.f impl_MakeRequest.f spec_MadeRequest.f spec_Mode_mark.f
  rw [awake, if_pos ⟨h0, h1⟩, e]
  cases b with
  | true =>
    simp only [Option.bind_some, if_true]
    rw [if_pos (by omega), if_pos (by omega), if_pos (by omega)]
    simp only [Option.bind_some]
    congr 1
    exact same (by apply ByteArray.ext; simp [ByteArray.data_append, txt, digs, dig])
  | false =>
    simp only [Option.bind_some, if_true, Bool.false_eq_true, if_false]
    rw [if_pos (by omega), if_pos (by omega), if_pos (by omega)]
    simp only [Option.bind_some]
    congr 1
    exact same (by apply ByteArray.ext; simp [ByteArray.data_append, txt, digs, dig])

end Go.Proofs.YtplmmblofhhikaaDoor.Pure
