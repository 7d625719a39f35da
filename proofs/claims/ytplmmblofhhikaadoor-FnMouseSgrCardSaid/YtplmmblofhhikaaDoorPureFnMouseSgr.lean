/- It is proved that the law FnMouseSgr answers true: a mouse event in SGR mode has its byte and both coordinates, one more each, and tells a release from others; for every input, with no further condition. -/
import Derived.Test.YtplmmblofhhikaaDoorPXx6
import Derived.Test.YtplmmblofhhikaaDoorAwake
import Derived.Test.YtplmmblofhhikaaDoorDig
namespace Go.Proofs.YtplmmblofhhikaaDoor.Pure
open Go Go.RowKit Go.Proofs.YtplmmblofhhikaaDoor.PX Go.Proofs.YtplmmblofhhikaaDoor.Or Go.Proofs.YtplmmblofhhikaaDoor.Aw Go.Proofs.YtplmmblofhhikaaDoor.Dig Go.Proofs.YtplmmblofhhikaaDoorW.PrintWords Go.Proofs.YtplmmblofhhikaaDoorW.PrintLast Go.Proofs.YtplmmblofhhikaaDoorW.PrintMore

set_option linter.unusedSimpArgs false
set_option linter.unusedVariables false
theorem size3 (n : Int) (h0 : -9223372036854775808 ≤ n) (h1 : n ≤ 9223372036854775807) : (dig n).size ≤ 21 := dig_size n h0 h1

/-- What both make. -/
def ev (b x y : Int) (c : ByteArray) : ByteArray := (((((((⟨#[27, 91, 60]⟩ : ByteArray) ++ dig b) ++ (⟨#[59]⟩ : ByteArray)) ++ dig (x + 1)) ++ (⟨#[59]⟩ : ByteArray)) ++ dig (y + 1)) ++ c)

theorem e109 : Utf8.encode 109 = ⟨#[109]⟩ := by decide +kernel
theorem e77 : Utf8.encode 77 = ⟨#[77]⟩ := by decide +kernel
theorem z109 : (⟨#[109]⟩ : ByteArray).size = 1 := rfl
theorem z77 : (⟨#[77]⟩ : ByteArray).size = 1 := rfl

theorem w (n : Int) (h0 : -9223372036854775808 ≤ n) (h1 : n ≤ 9223372036854775807) : wrap64 n = n := by unfold wrap64; omega

theorem sgr (k : Nat) (b x y : Int) (r : Bool) (hb : 0 ≤ b ∧ b < 256) (hx : -9007199254740992 ≤ x ∧ x ≤ 9007199254740992) (hy : -9007199254740992 ≤ y ∧ y ≤ 9007199254740992) :
    xansi_MouseSgr.f (k + 2) b x y r = some (ev b (if x < 0 then -x else x) (if y < 0 then -y else y) (if r then ⟨#[109]⟩ else ⟨#[77]⟩)) := by
  have s0 := size3 b (by omega) (by omega)
  have i0 := itoa_f b (by omega) (by omega)
  have wb := w b (by omega) (by omega)
  have key : ∀ x', 0 ≤ x' → x' ≤ 9007199254740992 → ∀ c, (c = 109 ∧ r = true ∨ c = 77 ∧ r = false) → xansi_MouseSgr.j1 (k + 1) b x' y c = some (ev b x' (if y < 0 then -y else y) (if r then ⟨#[109]⟩ else ⟨#[77]⟩)) := by
    intro x' h0 h1 c hc
    have wx := w (x' + 1) (by omega) (by omega)
    have ix := itoa_f (x' + 1) (by omega) (by omega)
    have sx := size3 (x' + 1) (by omega) (by omega)
    have ec : Utf8.encode c = (if r then ⟨#[109]⟩ else ⟨#[77]⟩) := by
      rcases hc with ⟨rfl, rfl⟩ | ⟨rfl, rfl⟩
      · rw [e109]; rfl
      · rw [e77]; rfl
    have zc : (if r then (⟨#[109]⟩ : ByteArray) else ⟨#[77]⟩).size = 1 := by cases r <;> rfl
    simp only [xansi_MouseSgr.j1, wb, i0, wx, ix, Option.bind_some, ec, zc]
    by_cases hn : y < 0
    · have wy1 := w (-y) (by omega) (by omega)
      have wy := w (-y + 1) (by omega) (by omega)
      have iy := itoa_f (-y + 1) (by omega) (by omega)
      have sy := size3 (-y + 1) (by omega) (by omega)
      rw [if_pos hn, if_pos hn, wy1, wy, iy]
      simp (discharger := omega) only [if_pos, if_true, Option.bind_some]
      rfl
    · have wy := w (y + 1) (by omega) (by omega)
      have iy := itoa_f (y + 1) (by omega) (by omega)
      have sy := size3 (y + 1) (by omega) (by omega)
      rw [if_neg hn, if_neg hn, wy, iy]
      simp (discharger := omega) only [if_pos, if_true, Option.bind_some]
      rfl
  have key0 : ∀ c, (c = 109 ∧ r = true ∨ c = 77 ∧ r = false) → xansi_MouseSgr.j0 (k + 2) b x y c = some (ev b (if x < 0 then -x else x) (if y < 0 then -y else y) (if r then ⟨#[109]⟩ else ⟨#[77]⟩)) := by
    intro c hc
    simp only [xansi_MouseSgr.j0]
    by_cases hn : x < 0
    · rw [if_pos hn, if_pos hn, w (-x) (by omega) (by omega)]
      exact key (-x) (by omega) (by omega) c hc
    · rw [if_neg hn, if_neg hn]
      exact key x (by omega) (by omega) c hc
  unfold xansi_MouseSgr.f
  cases r with
  | true => rw [if_pos rfl]; exact key0 109 (Or.inl ⟨rfl, rfl⟩)
  | false => rw [if_neg (by decide)]; exact key0 77 (Or.inr ⟨rfl, rfl⟩)

theorem made (k : Nat) (hk : 30 ≤ k) (b x y : Int) (r : Bool) (hb : 0 ≤ b ∧ b < 256) (hx : -9007199254740992 ≤ x ∧ x ≤ 9007199254740992) (hy : -9007199254740992 ≤ y ∧ y ≤ 9007199254740992) :
    spec_MadeMouse.f k b x y r = some (ev b (if x < 0 then -x else x) (if y < 0 then -y else y) (if r then ⟨#[109]⟩ else ⟨#[77]⟩)) := by
  have s0 := size3 b (by omega) (by omega)
  have i0 := digits b (by omega) (by omega) k hk
  have wb := w b (by omega) (by omega)
  have ab : ∀ z : Int, -9007199254740992 ≤ z ∧ z ≤ 9007199254740992 → wrap64 (mx z (wrap64 (-z)) + 1) = (if z < 0 then -z else z) + 1 := by
    intro z hz
    rw [w (-z) (by omega) (by omega)]
    unfold mx wrap64
    split <;> split <;> omega
  have hx' : 0 ≤ (if x < 0 then -x else x) ∧ (if x < 0 then -x else x) ≤ 9007199254740992 := by split <;> omega
  have hy' : 0 ≤ (if y < 0 then -y else y) ∧ (if y < 0 then -y else y) ≤ 9007199254740992 := by split <;> omega
  have ax := ab x hx
  have ay := ab y hy
  generalize (if x < 0 then -x else x) = X at *
  generalize (if y < 0 then -y else y) = Y at *
  have ix := digits (X + 1) (by omega) (by omega) k hk
  have sx := size3 (X + 1) (by omega) (by omega)
  have iy := digits (Y + 1) (by omega) (by omega) k hk
  have sy := size3 (Y + 1) (by omega) (by omega)
  unfold spec_MadeMouse.f
  rw [wb, ax, ay, i0, ix, iy]
  simp only [Option.bind_some]
  cases r with
  | true =>
    rw [if_pos rfl]
    simp (discharger := omega) only [if_pos, if_true, Option.bind_some]
    rfl
  | false =>
    rw [if_neg (by decide)]
    simp (discharger := omega) only [if_pos, if_true, Option.bind_some]
    rfl

theorem FnMouseSgr : laws_FnMouseSgr.Pure := by
  intro b x y r hb hx hy
  have hb := wf_u8 hb
  refine ⟨50, ?_⟩
  unfold laws_FnMouseSgr.f
  by_cases h2 : x < -9007199254740992
  · simp only [if_pos h2, laws_FnMouseSgr.j0, if_true, awake, Option.bind_some]
  by_cases h3 : x > 9007199254740992
  · simp only [if_neg h2, if_pos h3, laws_FnMouseSgr.j0, if_true, awake, Option.bind_some]
  by_cases h4 : y < -9007199254740992
  · simp only [if_neg h2, if_neg h3, if_pos h4, laws_FnMouseSgr.j0, if_true, awake, Option.bind_some]
  by_cases h5 : y > 9007199254740992
  · simp only [if_neg h2, if_neg h3, if_neg h4, decide_eq_true h5, laws_FnMouseSgr.j0, if_true, awake, Option.bind_some]
  simp only [if_neg h2, if_neg h3, if_neg h4, decide_eq_false h5, laws_FnMouseSgr.j0, awake, Option.bind_some]
  simp only [Bool.false_eq_true, if_false, if_true]
  unfold impl_MouseSgr.f
  rw [sgr 47 b x y r hb (by omega) (by omega), made 49 (by omega) b x y r hb (by omega) (by omega)]
  simp

end Go.Proofs.YtplmmblofhhikaaDoor.Pure
