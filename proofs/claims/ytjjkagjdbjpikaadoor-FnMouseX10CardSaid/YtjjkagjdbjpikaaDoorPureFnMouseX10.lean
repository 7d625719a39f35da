/- It is proved that the law FnMouseX10 answers true: a mouse event in X10 mode has its three characters; for every button and every coordinate, with no further condition. -/
import Derived.Test.YtjjkagjdbjpikaaDoorPXx11
import Derived.Test.YtjjkagjdbjpikaaDoorAwake
import Derived.Test.YtjjkagjdbjpikaaDoorCode
import Derived.Test.YtjjkagjdbjpikaaDoorBits
namespace Go.Proofs.YtjjkagjdbjpikaaDoor.Pure
open Go Go.RowKit Go.Proofs.YtjjkagjdbjpikaaDoor.PX Go.Proofs.YtjjkagjdbjpikaaDoor.Or Go.Proofs.YtjjkagjdbjpikaaDoor.Aw Go.Proofs.YtjjkagjdbjpikaaDoor.Code Go.Proofs.YtjjkagjdbjpikaaDoorW.PrintWords Go.Proofs.YtjjkagjdbjpikaaDoorW.PrintLast Go.Proofs.YtjjkagjdbjpikaaDoorW.PrintMore

theorem FnMouseX10 : laws_FnMouseX10.Pure := by
  intro b x y hb hx hy
  have hb := wf_u8 hb
  refine ⟨9, ?_⟩
  unfold laws_FnMouseX10.f
  by_cases h1 : b > 95
  · simp only [if_pos h1, laws_FnMouseX10.j0, if_true, awake, Option.bind_some]
  by_cases h2 : x < 0
  · simp only [if_neg h1, if_pos h2, laws_FnMouseX10.j0, if_true, awake, Option.bind_some]
  by_cases h3 : x > 94
  · simp only [if_neg h1, if_neg h2, if_pos h3, laws_FnMouseX10.j0, if_true, awake, Option.bind_some]
  by_cases h4 : y < 0
  · simp only [if_neg h1, if_neg h2, if_neg h3, if_pos h4, laws_FnMouseX10.j0, if_true, awake, Option.bind_some]
  by_cases h5 : y > 94
  · simp only [if_neg h1, if_neg h2, if_neg h3, if_neg h4, decide_eq_true h5, laws_FnMouseX10.j0, if_true, awake, Option.bind_some]
  simp only [if_neg h1, if_neg h2, if_neg h3, if_neg h4, decide_eq_false h5, laws_FnMouseX10.j0, awake, Option.bind_some, B.and255]
  rw [if_neg (by decide)]
  have ex : x % 256 % 256 = x := by omega
  have ey : y % 256 % 256 = y := by omega
  have eb : (b + 32) % 256 = b + 32 := by omega
  have e1 : (((x % 256) + 32) % 256 + 1) % 256 = x + 33 := by omega
  have e2 : (((y % 256) + 32) % 256 + 1) % 256 = y + 33 := by omega
  have e3 : (x + 33) % 256 = x + 33 := by omega
  have e4 : (y + 33) % 256 = y + 33 := by omega
  have s1 := size2 (b + 32) (by omega) (by omega)
  have s2 := size2 (x + 33) (by omega) (by omega)
  have s3 := size2 (y + 33) (by omega) (by omega)
  unfold impl_MouseX10.f xansi_MouseX10.f spec_MadeX10.f
  rw [ex, ey, eb, e1, e2, e3, e4, (code (b + 32) (by omega) (by omega)).1, (code (x + 33) (by omega) (by omega)).1, (code (y + 33) (by omega) (by omega)).1]
  simp only [Option.bind_some]
  simp (discharger := omega) only [if_pos, if_true, Option.bind_some]
  simp

end Go.Proofs.YtjjkagjdbjpikaaDoor.Pure
