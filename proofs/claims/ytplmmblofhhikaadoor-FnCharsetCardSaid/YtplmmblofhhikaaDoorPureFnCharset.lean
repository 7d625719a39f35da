/- It is proved that the law FnCharset answers true: a character set is chosen by its sequence; for every two bytes, with no further condition. -/
import Derived.Test.YtplmmblofhhikaaDoorPXx7
import Derived.Test.YtplmmblofhhikaaDoorAwake
import Derived.Test.YtplmmblofhhikaaDoorCode
namespace Go.Proofs.YtplmmblofhhikaaDoor.Pure
open Go Go.RowKit Go.Proofs.YtplmmblofhhikaaDoor.PX Go.Proofs.YtplmmblofhhikaaDoor.Or Go.Proofs.YtplmmblofhhikaaDoor.Aw Go.Proofs.YtplmmblofhhikaaDoor.Code Go.Proofs.YtplmmblofhhikaaDoorW.PrintWords Go.Proofs.YtplmmblofhhikaaDoorW.PrintLast

theorem FnCharset : laws_FnCharset.Pure := by
  intro a b ha hb
  have ha := wf_u8 ha
  have hb := wf_u8 hb
  refine ⟨9, ?_⟩
  unfold laws_FnCharset.f
  by_cases h1 : a > 127
  · simp only [if_pos h1, laws_FnCharset.j0, if_true, awake, Option.bind_some]
  by_cases h2 : b > 127
  · simp only [if_neg h1, decide_eq_true h2, laws_FnCharset.j0, if_true, awake, Option.bind_some]
  simp only [if_neg h1, decide_eq_false h2, laws_FnCharset.j0, awake, Option.bind_some]
  rw [if_neg (by decide)]
  have s1 := size2 a (by omega) (by omega)
  have s2 := size2 b (by omega) (by omega)
  unfold impl_Charset.f xansi_SelectCharacterSet.f spec_MadeCharset.f
  rw [(code a (by omega) (by omega)).1, (code b (by omega) (by omega)).1]
  simp only [Option.bind_some]
  simp (discharger := omega) only [if_pos, if_true, Option.bind_some]
  simp

end Go.Proofs.YtplmmblofhhikaaDoor.Pure
