/- The plain law of FnMakeText: what each function of a text makes is what the reference makes. No memory. -/
import Derived.Test.YtjjkagjdbjpikaaGreatDoorPMx3
import Derived.Test.YtjjkagjdbjpikaaGreatDoorAwakeM
namespace Go.Proofs.YtjjkagjdbjpikaaGreatDoor.Pure
open Go Go.RowKit Go.Proofs.YtjjkagjdbjpikaaGreatDoor.PM Go.Proofs.YtjjkagjdbjpikaaGreatDoor.Or Go.Proofs.YtjjkagjdbjpikaaGreatDoor.Aw Go.Proofs.YtjjkagjdbjpikaaGreatDoorW.PrintWords Go.Proofs.YtjjkagjdbjpikaaGreatDoorW.PrintLast
set_option linter.unusedVariables false
set_option linter.unusedSimpArgs false

theorem w64 {x : Int} (h0 : -9223372036854775808 ≤ x) (h1 : x ≤ 9223372036854775807) : wrap64 x = x := by unfold wrap64; omega
theorem short (s : ByteArray) : laws_makeShort.f 2 [s] = some (decide (s.size ≤ 4000)) := by
  have r0 : rdOf ByteArray.empty [s] 0 = s := rfl
  have hw : wrap64 ((0 : Int) + 1) = 1 := w64 (by omega) (by omega)
  unfold laws_makeShort.f
  simp only [List.length_cons, List.length_nil]
  unfold laws_makeShort.l0
  rw [if_pos (by omega), if_pos (by omega), if_pos (by simp), r0, hw]
  by_cases h : (s.size : Int) > 4000
  · rw [if_pos h, decide_eq_false (by omega)]
  · rw [if_neg h, decide_eq_true (p := s.size ≤ 4000) (by omega)]
    unfold laws_makeShort.l0
    rw [if_neg (by omega)]
    rfl
theorem made (i : Int) (s : ByteArray) (h0 : 0 ≤ i) (h12 : i ≤ 12) (hs : s.size ≤ 4000) : ∃ r, impl_MakeText.f i s = some r ∧ spec_MadeText.f i s = some r := by
  have e2 : (⟨#[76, 59]⟩ ++ s : ByteArray).size = 2 + s.size := by rw [ByteArray.size_append]; rfl
  have e3 : (⟨#[49, 59]⟩ ++ s : ByteArray).size = 2 + s.size := by rw [ByteArray.size_append]; rfl
  have hs1 : s.size ≤ 1000000 := by omega
  unfold spec_MadeText.f
  rw [if_pos hs1]
  by_cases h9 : i ≤ 9
  · rw [if_pos ⟨h0, h9⟩]
    refine ⟨_, ?_, rfl⟩
    rcases (show i = 0 ∨ i = 1 ∨ i = 2 ∨ i = 3 ∨ i = 4 ∨ i = 5 ∨ i = 6 ∨ i = 7 ∨ i = 8 ∨ i = 9 by omega) with rfl | rfl | rfl | rfl | rfl | rfl | rfl | rfl | rfl | rfl
    all_goals
      simp only [impl_MakeText.f, xansi_DECSIN.f, xansi_DECSWT.f, xansi_SetWindowTitle.f, xansi_SetIconName.f, xansi_SetIconNameWindowTitle.f, xansi_SetForegroundColor.f, xansi_SetBackgroundColor.f, xansi_SetCursorColor.f, xansi_SetPointerShape.f, xansi_Notify.f, Int.reduceEq, reduceIte, e2, e3]
      repeat rw [if_pos (by omega)]
      simp only [Option.bind_some, titleT, numT, aheadT, Int.reduceEq, reduceIte]
      congr 1
  rw [if_neg (by omega)]
  rcases (show i = 10 ∨ i = 11 ∨ i = 12 by omega) with rfl | rfl | rfl
  · rw [if_pos rfl]
    refine ⟨_, ?_, rfl⟩
    simp only [impl_MakeText.f, Int.reduceEq, reduceIte]
    unfold xansi_TertiaryDeviceAttributes.f da3T
    by_cases c1 : s.toList = ([] : List UInt8)
    · rw [if_pos c1, if_pos c1]; rfl
    rw [if_neg c1, if_neg c1]
    by_cases c2 : s.toList = ([48] : List UInt8)
    · rw [if_pos c2, if_pos c2]; rfl
    rw [if_neg c2, if_neg c2]
    repeat rw [if_pos (by omega)]
    rfl
  · rw [if_neg (by omega), if_pos rfl]
    refine ⟨_, ?_, rfl⟩
    simp only [impl_MakeText.f, Int.reduceEq, reduceIte]
    unfold xansi_TmuxPassthrough.f
    rw [if_pos hs1]
    rfl
  · rw [if_neg (by omega), if_neg (by omega), if_pos rfl]
    refine ⟨_, ?_, rfl⟩
    simp only [impl_MakeText.f, Int.reduceEq, reduceIte]
    unfold xansi_ClearProgramStatusID.f
    rw [if_pos hs1]
    rfl
theorem j0_true (k : Nat) (i : Int) (s : ByteArray) : laws_FnMakeText.j0 (k + 1) i s true = ((laws_makeAwake.f).bind fun t157 => (some t157)) := rfl
theorem j0_false (k : Nat) (i : Int) (s : ByteArray) : laws_FnMakeText.j0 (k + 1) i s false = ((laws_makeAwake.f).bind fun t158 => (if t158 = true then ((impl_MakeText.f i s).bind fun t159 => ((spec_MadeText.f i s).bind fun t160 => (some (t159.toList == t160.toList)))) else (some false))) := rfl
theorem FnMakeText : laws_FnMakeText.Pure := by
  intro i s _ _
  refine ⟨2, ?_⟩
  have aw : laws_FnMakeText.j0 2 i s true = some true := by rw [j0_true, awake]; rfl
  unfold laws_FnMakeText.f
  by_cases c1 : (s.size : Int) > 2147483647
  · rw [if_pos c1]
  rw [if_neg c1]
  by_cases c2 : i < 0
  · rw [if_pos c2]; exact aw
  rw [if_neg c2]
  by_cases c3 : i ≥ 13
  · rw [if_pos c3]; exact aw
  rw [if_neg c3, short, Option.bind_some]
  by_cases c4 : s.size ≤ 4000
  · rw [decide_eq_true c4]
    obtain ⟨r, h1, h2⟩ := made i s (by omega) (by omega) c4
    show laws_FnMakeText.j0 2 i s false = _
    rw [j0_false, awake, Option.bind_some, if_pos rfl, h1, Option.bind_some, h2, Option.bind_some]
    simp
  · rw [decide_eq_false c4]
    exact aw
end Go.Proofs.YtjjkagjdbjpikaaGreatDoor.Pure
