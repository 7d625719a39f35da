/- It is proved that the law FnButton answers true: a mouse button is encoded with its modifiers; for every button, with no further condition. -/
import Derived.Test.YtohblegfpghejaaDoorPXx6
import Derived.Test.YtohblegfpghejaaDoorAwake
namespace Go.Proofs.YtohblegfpghejaaDoor.Pure
open Go Go.RowKit Go.Proofs.YtohblegfpghejaaDoor.PX Go.Proofs.YtohblegfpghejaaDoor.Or Go.Proofs.YtohblegfpghejaaDoor.Aw Go.Proofs.YtohblegfpghejaaDoorW.PrintWords Go.Proofs.YtohblegfpghejaaDoorW.PrintLast

theorem button_same (u : Nat) (h : u < 256) (a b c d : Bool) : (match impl_ButtonOf.f 20 (u : Int) a b c d, spec_MadeButton.f 20 (u : Int) a b c d with | some x, some y => x == y | _, _ => false) = true := by
  have key : ((List.range 256).all fun u => [true, false].all fun a => [true, false].all fun b => [true, false].all fun c => [true, false].all fun d =>
      (match impl_ButtonOf.f 20 (u : Int) a b c d, spec_MadeButton.f 20 (u : Int) a b c d with | some x, some y => x == y | _, _ => false)) = true := by decide +kernel
  have m : ∀ x : Bool, x ∈ [true, false] := by intro x; cases x <;> simp
  have := List.all_eq_true.1 key u (List.mem_range.2 h)
  have := List.all_eq_true.1 this a (m a)
  have := List.all_eq_true.1 this b (m b)
  have := List.all_eq_true.1 this c (m c)
  exact List.all_eq_true.1 this d (m d)

theorem FnButton : laws_FnButton.Pure := by
  intro b m s a c hb
  have hb := wf_u8 hb
  obtain ⟨u, rfl⟩ := Int.eq_ofNat_of_zero_le hb.1
  have h := button_same u (by omega) m s a c
  refine ⟨20, ?_⟩
  unfold laws_FnButton.f
  simp only [awake, Option.bind_some, if_true]
  cases h1 : impl_ButtonOf.f 20 (u : Int) m s a c with
  | none => rw [h1] at h; simp at h
  | some x =>
    cases h2 : spec_MadeButton.f 20 (u : Int) m s a c with
    | none => rw [h1, h2] at h; simp at h
    | some y =>
      rw [h1, h2] at h
      have h' : (x == y) = true := h
      simp only [Option.bind_some, h']

end Go.Proofs.YtohblegfpghejaaDoor.Pure
