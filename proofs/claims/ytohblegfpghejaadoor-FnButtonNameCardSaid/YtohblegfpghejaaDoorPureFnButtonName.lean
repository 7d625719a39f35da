/- It is proved that the law FnButtonName answers true: a mouse button has its name, and others have none; for every byte, with no further condition. -/
import Derived.Test.YtohblegfpghejaaDoorPXx5
import Derived.Test.YtohblegfpghejaaDoorAwake
namespace Go.Proofs.YtohblegfpghejaaDoor.Pure
open Go Go.RowKit Go.Proofs.YtohblegfpghejaaDoor.PX Go.Proofs.YtohblegfpghejaaDoor.Or Go.Proofs.YtohblegfpghejaaDoor.Aw Go.Proofs.YtohblegfpghejaaDoorW.PrintWords Go.Proofs.YtohblegfpghejaaDoorW.PrintLast

def names : List ByteArray := (spec_ButtonNames.f).getD []
theorem names_is : spec_ButtonNames.f = some names := rfl
theorem names_len : (names.length : Int) = 12 := by decide
theorem name_small (u : Nat) (h : u < 12) : (match impl_ButtonName.f (u : Int) with | some x => x.toList == (rdOf ByteArray.empty names (u : Int)).toList | none => false) = true := by
  have key : ((List.range 12).all fun u => (match impl_ButtonName.f (u : Int) with | some x => x.toList == (rdOf ByteArray.empty names (u : Int)).toList | none => false)) = true := by decide +kernel
  exact List.all_eq_true.1 key u (List.mem_range.2 h)
theorem name_big (x : Int) (h : 12 ≤ x) : impl_ButtonName.f x = some ⟨#[]⟩ := by
  unfold impl_ButtonName.f xansi_MouseButton_String.f xansi_mouseButtons.f
  simp (discharger := omega) only [if_neg, Option.bind_some]

theorem FnButtonName : laws_FnButtonName.Pure := by
  intro b hb
  have hb := wf_u8 hb
  refine ⟨1, ?_⟩
  have w : wrap64 b = b := by unfold wrap64; omega
  have l := names_len
  unfold laws_FnButtonName.f
  rw [names_is]
  simp only [awake, Option.bind_some, if_true, w]
  by_cases h : b < 12
  · rw [if_pos (by omega), if_pos hb.1, if_pos (by omega)]
    obtain ⟨u, rfl⟩ := Int.eq_ofNat_of_zero_le hb.1
    have := name_small u (by omega)
    cases h1 : impl_ButtonName.f (u : Int) with
    | none => rw [h1] at this; simp at this
    | some x =>
      rw [h1] at this
      have h' : (x.toList == (rdOf ByteArray.empty names (u : Int)).toList) = true := this
      simp only [Option.bind_some, h']
  · rw [if_neg (by omega), name_big b (by omega)]
    simp only [Option.bind_some]
    decide +kernel

end Go.Proofs.YtohblegfpghejaaDoor.Pure
