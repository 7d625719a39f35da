/- It is proved that the law FnLightDark answers true: a light or dark preference is reported by its sequence; with no further condition. -/
import Derived.Test.YtjjkagjdbjpikaaDoorPXx11
import Derived.Test.YtjjkagjdbjpikaaDoorAwake
namespace Go.Proofs.YtjjkagjdbjpikaaDoor.Pure
open Go Go.RowKit Go.Proofs.YtjjkagjdbjpikaaDoor.PX Go.Proofs.YtjjkagjdbjpikaaDoor.Or Go.Proofs.YtjjkagjdbjpikaaDoor.Aw Go.Proofs.YtjjkagjdbjpikaaDoorW.PrintWords Go.Proofs.YtjjkagjdbjpikaaDoorW.PrintLast

theorem FnLightDark : laws_FnLightDark.Pure := by
  intro d
  refine ⟨1, ?_⟩
  unfold laws_FnLightDark.f impl_LightDark.f xansi_LightDarkReport.f spec_MadeLightDark.f
  simp only [awake, Option.bind_some, if_true]
  cases d <;> simp

end Go.Proofs.YtjjkagjdbjpikaaDoor.Pure
