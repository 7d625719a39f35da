/- The contracts of ClearProgramStatusID and of the reference's MadeText, in the print's form. -/
import Derived.Test.YtjjkagjdbjpikaaGreatDoorMadeW
namespace Go.Proofs.YtjjkagjdbjpikaaGreatDoor.Or
set_option linter.unusedVariables false
set_option linter.unusedSimpArgs false
open Go Go.RowKit Go.Proofs.YtjjkagjdbjpikaaGreatDoorW.PrintWords Go.Proofs.YtjjkagjdbjpikaaGreatDoorW.PrintLast Go.Proofs.YtjjkagjdbjpikaaGreatDoorW.PrintMore Go.Proofs.YtjjkagjdbjpikaaGreatDoor.PV

def clearedT (s : ByteArray) : ByteArray := if s.toList = [] then statT s else if St.okID (St.L s) = true then statT s else ⟨#[]⟩

set_option maxHeartbeats 4000000 in
theorem clear_of (s r : ByteArray) (w : World) (H : Calls Tryz.prog 66 #[.agg #[.string clearT, .string s, .string ⟨#[]⟩, .string ⟨#[]⟩, .int .i64 0, .bool false, .string ⟨#[]⟩, .string ⟨#[]⟩]] w fun e w' => e = .returned (.string r) ∧ Below w.heap.size w w') :
    Calls Tryz.prog 27 #[.string s] w fun e w' => e = .returned (.string r) ∧ Below w.heap.size w w' := by
  go_enter Tryz.func27, Tryz.ntmps27
  go_wp2_with fail
  refine H.mono ?_
  rintro e w1 ⟨rfl, hb⟩
  go_wp2
  go_ret
  exact ⟨rfl, hb⟩

def xansi_ClearProgramStatusID.f (s : ByteArray) : Option ByteArray := if s.size ≤ 1000000 then some (clearedT s) else none
theorem xansi_ClearProgramStatusID.calls (s : ByteArray) (r : ByteArray) (w : World) (h : xansi_ClearProgramStatusID.f s = some r) :
    Calls Tryz.prog 27 #[.string s] w fun e w' => e = .returned (.string r) ∧ Below w.heap.size w w' := by
  unfold xansi_ClearProgramStatusID.f at h
  split at h
  · rename_i hs
    obtain rfl := Option.some.inj h
    refine clear_of s _ w ?_
    unfold clearedT
    by_cases hne : s.toList = []
    · rw [if_pos hne]
      exact set_none s w hne
    · obtain ⟨K, hK⟩ := St.valid s hs
      have hv := hK K (Nat.le_refl _)
      rw [if_neg hne]
      by_cases hok : St.okID (St.L s) = true
      · rw [if_pos hok]
        rw [hok] at hv
        exact set_clear s w hs hne K hv
      · rw [if_neg hok]
        rw [Bool.eq_false_iff.mpr hok] at hv
        exact set_bad s w hs hne K hv
  · cases h

theorem made_clear (s : ByteArray) (w : World) (hs : s.size ≤ 1000000) :
    Calls Tryz.prog 28 #[.agg #[.string ⟨#[99, 108, 101, 97, 114]⟩, .string s, .string ⟨#[]⟩, .string ⟨#[]⟩, .int .i64 0, .bool false, .string ⟨#[]⟩, .string ⟨#[]⟩]] w fun e w' => e = .returned (.string (clearedT s)) ∧ Below w.heap.size w w' := by
  unfold clearedT
  by_cases hne : s.toList = []
  · rw [if_pos hne]
    exact ms_none s w hne
  · obtain ⟨K, hK⟩ := St.isID s hs
    have hv := hK K (Nat.le_refl _)
    rw [if_neg hne]
    by_cases hok : St.okID (St.L s) = true
    · rw [if_pos hok]
      rw [hok] at hv
      exact ms_true s w hs hne K hv
    · rw [if_neg hok]
      rw [Bool.eq_false_iff.mpr hok] at hv
      exact ms_false s w hs hne K hv
def spec_MadeText.f (i : Int) (s : ByteArray) : Option ByteArray :=
  if s.size ≤ 1000000 then (if 0 ≤ i ∧ i ≤ 9 then some (titleT i s) else if i = 10 then some (da3T s) else if i = 11 then some (tmuxT s) else if i = 12 then some (clearedT s) else none) else none
theorem spec_MadeText.calls (i : Int) (s : ByteArray) (r : ByteArray) (w : World) (h : spec_MadeText.f i s = some r) :
    Calls Tryz.prog 10 #[.int .i64 i, .string s] w fun e w' => e = .returned (.string r) ∧ Below w.heap.size w w' := by
  unfold spec_MadeText.f at h
  by_cases hs : s.size ≤ 1000000
  · rw [if_pos hs] at h
    by_cases h9 : 0 ≤ i ∧ i ≤ 9
    · rw [if_pos h9] at h
      obtain rfl := Option.some.inj h
      exact made_title i s w h9.1 h9.2 hs
    rw [if_neg h9] at h
    by_cases h10 : i = 10
    · rw [if_pos h10] at h
      obtain rfl := Option.some.inj h
      subst h10
      exact made_da3 s w hs
    rw [if_neg h10] at h
    by_cases h11 : i = 11
    · rw [if_pos h11] at h
      obtain rfl := Option.some.inj h
      subst h11
      exact made_tmux s w hs
    rw [if_neg h11] at h
    by_cases h12 : i = 12
    · rw [if_pos h12] at h
      obtain rfl := Option.some.inj h
      subst h12
      exact made_status s _ w (made_clear s w hs)
    · rw [if_neg h12] at h
      cases h
  · rw [if_neg hs] at h
    cases h
end Go.Proofs.YtjjkagjdbjpikaaGreatDoor.Or
