/- It is proved that the law FnMakePair answers true: a function of two numbers makes just the sequence that the reference tells; for all numbers and every function, with no further condition. -/
import Derived.Test.YtplmmblofhhikaaDoorPLx8
import Derived.Test.YtplmmblofhhikaaDoorAwakeL
import Derived.Test.YtplmmblofhhikaaDoorDigL
namespace Go.Proofs.YtplmmblofhhikaaDoor.Pure
open Go Go.RowKit Go.Proofs.YtplmmblofhhikaaDoor.PL Go.Proofs.YtplmmblofhhikaaDoor.Or Go.Proofs.YtplmmblofhhikaaDoor.Aw Go.Proofs.YtplmmblofhhikaaDoor.Dig Go.Proofs.YtplmmblofhhikaaDoorW.PrintWords Go.Proofs.YtplmmblofhhikaaDoorW.PrintLast Go.Proofs.YtplmmblofhhikaaDoorW.PrintMore

set_option linter.unusedSimpArgs false
set_option linter.unusedVariables false
theorem zp (c : UInt8) : (⟨#[c]⟩ : ByteArray).size = 1 := rfl
theorem zz : (⟨#[]⟩ : ByteArray).size = 0 := rfl

def R (a : Int) : Prop := -9223372036854775808 ≤ a ∧ a ≤ 9223372036854775807
/-- A number told where it is above naught. -/
def ab (x : Int) : ByteArray := if x > 0 then dig x else ⟨#[]⟩
theorem ab_pos {x : Int} (h : x > 0) : ab x = dig x := if_pos h
theorem ab_neg {x : Int} (h : ¬ x > 0) : ab x = ⟨#[]⟩ := if_neg h
theorem ab_size {x : Int} (h : R x) : (ab x).size ≤ 21 := by
  by_cases hp : x > 0
  · rw [ab_pos hp]; exact dig_size x h.1 h.2
  · rw [ab_neg hp]; exact Nat.zero_le _
theorem above (k : Nat) (hk : 30 ≤ k) {x : Int} (h : R x) : spec_madeAbove.f k x 0 = some (ab x) := by
  unfold spec_madeAbove.f
  by_cases hp : x > 0
  · rw [if_neg (by omega), digits x h.1 h.2 k hk, ab_pos hp]; rfl
  · rw [if_pos (by omega), ab_neg hp]
theorem mxR {x : Int} (h : R x) : R (mx x 1) := by unfold mx R at *; split <;> omega

/-- Two numbers, told with a separator between. -/
def two (p x y e : ByteArray) : ByteArray := (((p ++ x) ++ (⟨#[59]⟩ : ByteArray)) ++ y) ++ e

theorem s1 (k : Nat) (hk : 40 ≤ k) (c a b : Int) (e : ByteArray) (hc : 0 ≤ c) (hc2 : c < 2) (he : rdOf ByteArray.empty [(⟨#[72]⟩ : ByteArray), (⟨#[102]⟩ : ByteArray)] c = e) (hz : e.size = 1) (ha : R a) (hb : R b) : spec_MadePair.j1 (k + 1) c a b false = some (two ⟨#[27, 91]⟩ (ab b) (ab a) e) := by
  have sa := ab_size ha
  have sb := ab_size hb
  have hl : ((([(⟨#[72]⟩ : ByteArray), (⟨#[102]⟩ : ByteArray)] : List ByteArray).length : Nat) : Int) = 2 := rfl
  simp only [spec_MadePair.j1, above k (by omega) ha, above k (by omega) hb, Option.bind_some, Bool.false_eq_true, if_false, he, hl]
  rw [if_pos (by omega), if_pos (by omega), if_pos (by omega), if_pos (by omega), if_pos (by omega), if_pos (by omega)]
  rfl
theorem s2 (k : Nat) (hk : 40 ≤ k) (c x a b : Int) (e : ByteArray) (hc : 0 ≤ wrap64 (c - 2)) (hc2 : wrap64 (c - 2) < 2) (he : rdOf ByteArray.empty [(⟨#[114]⟩ : ByteArray), (⟨#[115]⟩ : ByteArray)] (wrap64 (c - 2)) = e) (hz : e.size = 1) (ha : R a) (hb : R b) : spec_MadePair.j2 (k + 1) c a b x true = some (two ⟨#[27, 91]⟩ (ab a) (ab b) e) := by
  have sa := ab_size ha
  have sb := ab_size hb
  have hl : ((([(⟨#[114]⟩ : ByteArray), (⟨#[115]⟩ : ByteArray)] : List ByteArray).length : Nat) : Int) = 2 := rfl
  simp only [spec_MadePair.j2, above k (by omega) ha, above k (by omega) hb, Option.bind_some, if_true, he, hl]
  rw [if_pos (by omega), if_pos (by omega), if_pos (by omega), if_pos (by omega), if_pos (by omega), if_pos (by omega)]
  rfl
theorem s4 (k : Nat) (hk : 40 ≤ k) (c a b : Int) (ha : R a) (hb : R b) : spec_MadePair.j2 (k + 1) c a b 4 false = some (two ⟨#[27, 91]⟩ (dig (mx a 1)) (dig (mx b 1)) ⟨#[82]⟩) := by
  have ha := mxR ha
  have hb := mxR hb
  have sa := dig_size _ ha.1 ha.2
  have sb := dig_size _ hb.1 hb.2
  simp only [spec_MadePair.j2, digits _ ha.1 ha.2 k (by omega), digits _ hb.1 hb.2 k (by omega), Option.bind_some, Bool.false_eq_true, if_false, if_true]
  rw [if_pos (by omega), if_pos (by omega), if_pos (by omega), if_pos (by omega)]
  rfl
theorem s5 (k : Nat) (hk : 40 ≤ k) (c a b : Int) (ha : R a) (hb : R b) : spec_MadePair.j2 (k + 1) c a b 5 false = some (two ⟨#[27, 91, 61]⟩ (dig a) (dig b) ⟨#[117]⟩) := by
  have sa := dig_size _ ha.1 ha.2
  have sb := dig_size _ hb.1 hb.2
  simp only [spec_MadePair.j2, digits _ ha.1 ha.2 k (by omega), digits _ hb.1 hb.2 k (by omega), Option.bind_some, Bool.false_eq_true, if_false, if_true, show ((5 : Int) = 4) = False by simp]
  rw [if_pos (by omega), if_pos (by omega), if_pos (by omega), if_pos (by omega)]
  rfl
/-- What two key options make. -/
def six (a b : Int) : ByteArray := if b > 0 then two ⟨#[27, 91, 62]⟩ (ab a) (dig b) ⟨#[109]⟩ else ((⟨#[27, 91, 62]⟩ : ByteArray) ++ ab a) ++ (⟨#[109]⟩ : ByteArray)
theorem l6 (k : Nat) (hk : 40 ≤ k) (a b : Int) (ha : R a) (hb : R b) : spec_MadeList.f k 6 [a, b] = some (six a b) := by
  have sa := ab_size ha
  have sb := dig_size _ hb.1 hb.2
  have hl : ((([a, b] : List Int).length : Nat) : Int) = 2 := rfl
  have r0 : rd [a, b] 0 = a := rfl
  have r1 : rd [a, b] 1 = b := rfl
  unfold spec_MadeList.f six
  rw [if_neg (by omega), if_neg (by omega), if_neg (by omega), if_neg (by omega), if_neg (by omega), if_neg (by omega), if_pos rfl, hl, if_neg (by omega), if_pos (by omega), r0, r1]
  by_cases hp : b > 0
  · rw [if_pos hp, if_pos hp, if_pos (by omega), above k (by omega) ha, digits _ hb.1 hb.2 k (by omega)]
    simp only [Option.bind_some]
    rw [if_pos (by omega), if_pos (by omega), if_pos (by omega), if_pos (by omega)]
    rfl
  · rw [if_neg hp, if_neg hp, if_pos (by omega), above k (by omega) ha, Option.bind_some, if_pos (by omega), if_pos (by omega)]
theorem s6 (k : Nat) (hk : 40 ≤ k) (c a b : Int) (ha : R a) (hb : R b) : spec_MadePair.j2 (k + 1) c a b 6 false = some (six a b) := by
  simp only [spec_MadePair.j2, l6 k hk a b ha hb, Option.bind_some, Bool.false_eq_true, if_false, show ((6 : Int) = 4) = False by simp, show ((6 : Int) = 5) = False by simp]

theorem i0 (k : Nat) (a b : Int) (ha : R a) (hb : R b) : xansi_CursorPosition.j0 (k + 1) a b false = some (two ⟨#[27, 91]⟩ (ab b) (ab a) ⟨#[72]⟩) := by
  have sa := dig_size _ ha.1 ha.2
  have sb := dig_size _ hb.1 hb.2
  by_cases h1 : b > 0 <;> by_cases h2 : a > 0
  all_goals
    simp only [xansi_CursorPosition.j0, itoa_f a ha.1 ha.2, itoa_f b hb.1 hb.2, Option.bind_some, Bool.false_eq_true, if_false, if_pos, if_neg, h1, h2, not_false_eq_true]
    rw [if_pos (by omega), if_pos (by omega), if_pos (by omega), if_pos (by omega)]
    simp only [two, ab_pos, ab_neg, h1, h2, not_false_eq_true]
theorem i1 (a b : Int) (ha : R a) (hb : R b) : xansi_HorizontalVerticalPosition.f a b = some (two ⟨#[27, 91]⟩ (ab b) (ab a) ⟨#[102]⟩) := by
  have sa := dig_size _ ha.1 ha.2
  have sb := dig_size _ hb.1 hb.2
  by_cases h1 : b > 0 <;> by_cases h2 : a > 0
  all_goals
    simp only [xansi_HorizontalVerticalPosition.f, itoa_f a ha.1 ha.2, itoa_f b hb.1 hb.2, Option.bind_some, if_pos, if_neg, h1, h2, not_false_eq_true]
    rw [if_pos (by omega), if_pos (by omega), if_pos (by omega), if_pos (by omega)]
    simp only [two, ab_pos, ab_neg, h1, h2, not_false_eq_true]
theorem i2 (a b : Int) (ha : R a) (hb : R b) : xansi_SetTopBottomMargins.f a b = some (two ⟨#[27, 91]⟩ (ab a) (ab b) ⟨#[114]⟩) := by
  have sa := dig_size _ ha.1 ha.2
  have sb := dig_size _ hb.1 hb.2
  by_cases h1 : b > 0 <;> by_cases h2 : a > 0
  all_goals
    simp only [xansi_SetTopBottomMargins.f, itoa_f a ha.1 ha.2, itoa_f b hb.1 hb.2, Option.bind_some, if_pos, if_neg, h1, h2, not_false_eq_true]
    rw [if_pos (by omega), if_pos (by omega), if_pos (by omega), if_pos (by omega)]
    simp only [two, ab_pos, ab_neg, h1, h2, not_false_eq_true]
theorem i3 (a b : Int) (ha : R a) (hb : R b) : xansi_SetLeftRightMargins.f a b = some (two ⟨#[27, 91]⟩ (ab a) (ab b) ⟨#[115]⟩) := by
  have sa := dig_size _ ha.1 ha.2
  have sb := dig_size _ hb.1 hb.2
  by_cases h1 : b > 0 <;> by_cases h2 : a > 0
  all_goals
    simp only [xansi_SetLeftRightMargins.f, itoa_f a ha.1 ha.2, itoa_f b hb.1 hb.2, Option.bind_some, if_pos, if_neg, h1, h2, not_false_eq_true]
    rw [if_pos (by omega), if_pos (by omega), if_pos (by omega), if_pos (by omega)]
    simp only [two, ab_pos, ab_neg, h1, h2, not_false_eq_true]
theorem i4 (k : Nat) (a b : Int) (ha : R a) (hb : R b) : xansi_CursorPositionReport.f (k + 1) a b = some (two ⟨#[27, 91]⟩ (dig (mx a 1)) (dig (mx b 1)) ⟨#[82]⟩) := by
  have ha' := mxR ha
  have hb' := mxR hb
  have sa := dig_size _ ha'.1 ha'.2
  have sb := dig_size _ hb'.1 hb'.2
  have key : ∀ x, R x → (dig x).size ≤ 21 → xansi_CursorPositionReport.j0 (k + 1) x b = some (two ⟨#[27, 91]⟩ (dig x) (dig (mx b 1)) ⟨#[82]⟩) := by
    intro x hx sx
    simp only [xansi_CursorPositionReport.j0, itoa_f x hx.1 hx.2, itoa_f b hb.1 hb.2, itoa_f 1 (by omega) (by omega), Option.bind_some]
    by_cases h : b < 1
    · have e : mx b 1 = 1 := by unfold mx; rw [if_pos h]
      rw [e] at sb ⊢
      rw [if_pos h, if_pos (by omega), if_pos (by omega), if_pos (by omega), if_pos (by omega)]
      rfl
    · have e : mx b 1 = b := by unfold mx; rw [if_neg h]
      rw [e] at sb ⊢
      rw [if_neg h, if_pos (by omega), if_pos (by omega), if_pos (by omega), if_pos (by omega)]
      rfl
  unfold xansi_CursorPositionReport.f
  by_cases h : a < 1
  · have e : mx a 1 = 1 := by unfold mx; rw [if_pos h]
    rw [e] at sa ⊢
    rw [if_pos h]
    exact key 1 ⟨by omega, by omega⟩ sa
  · have e : mx a 1 = a := by unfold mx; rw [if_neg h]
    rw [e] at sa ⊢
    rw [if_neg h]
    exact key a ha sa
theorem i5 (a b : Int) (ha : R a) (hb : R b) : xansi_KittyKeyboard.f a b = some (two ⟨#[27, 91, 61]⟩ (dig a) (dig b) ⟨#[117]⟩) := by
  have sa := dig_size _ ha.1 ha.2
  have sb := dig_size _ hb.1 hb.2
  simp only [xansi_KittyKeyboard.f, itoa_f a ha.1 ha.2, itoa_f b hb.1 hb.2, Option.bind_some]
  rw [if_pos (by omega), if_pos (by omega), if_pos (by omega), if_pos (by omega)]
  rfl
theorem i6 (k : Nat) (a b : Int) (ha : R a) (hb : R b) : xansi_SetKeyModifierOptions.f (k + 1) a b = some (six a b) := by
  have sa := ab_size ha
  have sb := dig_size _ hb.1 hb.2
  have hl : ((([b] : List Int).length : Nat) : Int) = 1 := rfl
  have r0 : rd [b] 0 = b := rfl
  have key : xansi_KeyModifierOptions.j0 (k + 1) a [b] (ab a) = some (six a b) := by
    simp only [xansi_KeyModifierOptions.j0, hl, r0, itoa_f b hb.1 hb.2, Option.bind_some]
    rw [if_neg (by omega), if_pos (by omega)]
    unfold six
    by_cases hp : b > 0
    · rw [if_pos hp, if_pos hp, if_pos (by omega), if_pos (by omega), if_pos (by omega), if_pos (by omega)]
      rfl
    · rw [if_neg hp, if_neg hp, if_pos (by omega), if_pos (by omega)]
  unfold xansi_SetKeyModifierOptions.f xansi_KeyModifierOptions.f
  by_cases h : a > 0
  · rw [ab_pos h] at key
    rw [if_pos h, itoa_f a ha.1 ha.2, Option.bind_some, key]
    rfl
  · rw [ab_neg h] at key
    rw [if_neg h, key]
    rfl

def Same (c a b : Int) : Prop := ∃ r, impl_MakePair.f 60 c a b = some r ∧ spec_MadePair.f 60 c a b = some r

theorem p0 (a b : Int) (ha : R a) (hb : R b) : Same 0 a b := by
  have hs := s1 58 (by omega) 0 a b ⟨#[72]⟩ (by omega) (by omega) rfl rfl ha hb
  have hi := i0 59 a b ha hb
  unfold Same impl_MakePair.f spec_MadePair.f xansi_CursorPosition.f
  rw [if_pos rfl, if_pos rfl, show ((0 : Int) == 0) = true from rfl]
  simp only [spec_MadePair.j0, if_true]
  by_cases h1 : b ≤ 1 <;> by_cases h2 : a ≤ 1
  · rw [if_pos h1, if_pos h2, decide_eq_true h1, decide_eq_true h2]
    simp only [xansi_CursorPosition.j0, spec_MadePair.j1, if_true]
    exact ⟨_, rfl, rfl⟩
  · rw [if_pos h1, if_neg h2, decide_eq_false h2, hi, hs]; exact ⟨_, rfl, rfl⟩
  · rw [if_neg h1, if_pos h2, decide_eq_false h1, hi, hs]; exact ⟨_, rfl, rfl⟩
  · rw [if_neg h1, if_neg h2, hi, hs]; exact ⟨_, rfl, rfl⟩
theorem p1 (a b : Int) (ha : R a) (hb : R b) : Same 1 a b := by
  have hs := s1 58 (by omega) 1 a b ⟨#[102]⟩ (by omega) (by omega) rfl rfl ha hb
  unfold Same impl_MakePair.f spec_MadePair.f
  rw [if_neg (by omega), if_pos rfl, if_neg (by omega), show ((1 : Int) == 1) = true from rfl, i1 a b ha hb]
  simp only [spec_MadePair.j0, if_true]
  rw [if_neg (by omega), hs]
  exact ⟨_, rfl, rfl⟩
theorem p2 (a b : Int) (ha : R a) (hb : R b) : Same 2 a b := by
  have hs := s2 58 (by omega) 2 2 a b ⟨#[114]⟩ (by decide +kernel) (by decide +kernel) (by rw [show wrap64 (2 - 2) = 0 by decide +kernel]; rfl) rfl ha hb
  unfold Same impl_MakePair.f spec_MadePair.f
  rw [if_neg (by omega), if_neg (by omega), if_pos rfl, if_neg (by omega), show ((2 : Int) == 1) = false from rfl, i2 a b ha hb]
  simp only [spec_MadePair.j0, if_true, Bool.false_eq_true, if_false, show ((2 : Int) == 2) = true from rfl]
  rw [hs]
  exact ⟨_, rfl, rfl⟩
theorem p3 (a b : Int) (ha : R a) (hb : R b) : Same 3 a b := by
  have hs := s2 58 (by omega) 3 3 a b ⟨#[115]⟩ (by decide +kernel) (by decide +kernel) (by rw [show wrap64 (3 - 2) = 1 by decide +kernel]; rfl) rfl ha hb
  unfold Same impl_MakePair.f spec_MadePair.f
  rw [if_neg (by omega), if_neg (by omega), if_neg (by omega), if_pos rfl, if_neg (by omega), show ((3 : Int) == 1) = false from rfl, i3 a b ha hb]
  simp only [spec_MadePair.j0, if_true, Bool.false_eq_true, if_false, show ((3 : Int) = 2) = False by simp, show ((3 : Int) == 3) = true from rfl]
  rw [hs]
  exact ⟨_, rfl, rfl⟩
theorem p4 (a b : Int) (ha : R a) (hb : R b) : Same 4 a b := by
  have hs := s4 58 (by omega) 4 a b ha hb
  unfold Same impl_MakePair.f spec_MadePair.f
  rw [if_neg (by omega), if_neg (by omega), if_neg (by omega), if_neg (by omega), if_pos rfl, if_neg (by omega), show ((4 : Int) == 1) = false from rfl, i4 59 a b ha hb]
  simp only [spec_MadePair.j0, Bool.false_eq_true, if_false, show ((4 : Int) = 2) = False by simp, show ((4 : Int) == 3) = false from rfl]
  rw [hs]
  exact ⟨_, rfl, rfl⟩
theorem p5 (a b : Int) (ha : R a) (hb : R b) : Same 5 a b := by
  have hs := s5 58 (by omega) 5 a b ha hb
  unfold Same impl_MakePair.f spec_MadePair.f
  rw [if_neg (by omega), if_neg (by omega), if_neg (by omega), if_neg (by omega), if_neg (by omega), if_pos rfl, if_neg (by omega), show ((5 : Int) == 1) = false from rfl, i5 a b ha hb]
  simp only [spec_MadePair.j0, Bool.false_eq_true, if_false, show ((5 : Int) = 2) = False by simp, show ((5 : Int) == 3) = false from rfl]
  rw [hs]
  exact ⟨_, rfl, rfl⟩
theorem p6 (a b : Int) (ha : R a) (hb : R b) : Same 6 a b := by
  have hs := s6 58 (by omega) 6 a b ha hb
  unfold Same impl_MakePair.f spec_MadePair.f
  rw [if_neg (by omega), if_neg (by omega), if_neg (by omega), if_neg (by omega), if_neg (by omega), if_neg (by omega), if_pos rfl, if_neg (by omega), show ((6 : Int) == 1) = false from rfl, i6 59 a b ha hb]
  simp only [spec_MadePair.j0, Bool.false_eq_true, if_false, show ((6 : Int) = 2) = False by simp, show ((6 : Int) == 3) = false from rfl]
  rw [hs]
  exact ⟨_, rfl, rfl⟩

theorem FnMakePair : laws_FnMakePair.Pure := by
  intro c a b _ ha hb
  have ha : R a := wf_i64 ha
  have hb : R b := wf_i64 hb
  refine ⟨61, ?_⟩
  unfold laws_FnMakePair.f
  by_cases h1 : c < 0
  · simp only [if_pos h1, laws_FnMakePair.j0, if_true, awake, Option.bind_some]
  by_cases h2 : c ≥ 7
  · simp only [if_neg h1, decide_eq_true h2, laws_FnMakePair.j0, if_true, awake, Option.bind_some]
  simp only [if_neg h1, decide_eq_false h2, laws_FnMakePair.j0, awake, Option.bind_some]
  simp only [Bool.false_eq_true, if_false, if_true]
  have key : Same c a b := by
    have : c = 0 ∨ c = 1 ∨ c = 2 ∨ c = 3 ∨ c = 4 ∨ c = 5 ∨ c = 6 := by omega
    rcases this with rfl | rfl | rfl | rfl | rfl | rfl | rfl
    · exact p0 a b ha hb
    · exact p1 a b ha hb
    · exact p2 a b ha hb
    · exact p3 a b ha hb
    · exact p4 a b ha hb
    · exact p5 a b ha hb
    · exact p6 a b ha hb
  obtain ⟨r, e1, e2⟩ := key
  rw [e1, e2]
  simp

end Go.Proofs.YtplmmblofhhikaaDoor.Pure
