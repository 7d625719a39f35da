/- The plain law of FnPalette: the reference's hexadecimal digits are those of the tables; off the sixteen places both are empty. No memory. -/
import Derived.Test.YtjjkagjdbjpikaaDoorPIx3
import Derived.Test.YtjjkagjdbjpikaaDoorAwakeI
namespace Go.Proofs.YtjjkagjdbjpikaaDoor.Pure
open Go Go.RowKit Go.Proofs.YtjjkagjdbjpikaaDoor.PI Go.Proofs.YtjjkagjdbjpikaaDoor.Or Go.Proofs.YtjjkagjdbjpikaaDoor.Aw Go.Proofs.YtjjkagjdbjpikaaDoorW.PrintWords Go.Proofs.YtjjkagjdbjpikaaDoorW.PrintLast
set_option linter.unusedVariables false
set_option linter.unusedSimpArgs false

theorem w64 {x : Int} (h0 : -9223372036854775808 ≤ x) (h1 : x ≤ 9223372036854775807) : wrap64 x = x := by unfold wrap64; omega
def hx (n : Nat) : Int := bt (⟨#[48, 49, 50, 51, 52, 53, 54, 55, 56, 57, 97, 98, 99, 100, 101, 102]⟩ : ByteArray) (n : Int)
theorem hx_dl (n : Nat) (h : n < 16) : hx n = ((dl.getD n 0).toNat : Int) := by
  have key : ((List.range 16).all fun n => decide (hx n = ((dl.getD n 0).toNat : Int))) = true := by decide +kernel
  exact of_decide_eq_true (List.all_eq_true.1 key n (List.mem_range.2 h))
theorem low4 (n : Nat) (h : n < 256) : Go.bits .and .u8 (n : Int) 15 = ((n % 16 : Nat) : Int) := by
  have key : ((List.range 256).all fun n => decide (Go.bits .and .u8 (n : Int) 15 = ((n % 16 : Nat) : Int))) = true := by decide +kernel
  exact of_decide_eq_true (List.all_eq_true.1 key n (List.mem_range.2 h))
theorem round (k : Nat) (x9 l : List Int) (j : Nat) (v : Nat) (hv : v < 256) (hj : j < l.length) (hl : l.length < 10) (e : rd l (j : Int) = (v : Int)) (h9 : x9.length < 100) :
    spec_MadePalette.l0 (k + 1) x9 l (l.length : Int) (j : Int) = spec_MadePalette.l0 k (x9 ++ [hx (v / 16), hx (v % 16)]) l (l.length : Int) ((j + 1 : Nat) : Int) := by
  have d16 : (v : Int) / 16 = ((v / 16 : Nat) : Int) := by omega
  have hw : wrap64 ((j : Int) + 1) = ((j + 1 : Nat) : Int) := by rw [w64 (by omega) (by omega)]; omega
  conv => lhs; unfold spec_MadePalette.l0
  rw [e, low4 v hv, d16, if_pos (by omega), if_pos (by omega), if_pos (by omega), if_pos (by omega), if_pos (by omega), if_pos (by omega), if_pos (by omega), hw]
  simp only [Option.bind_some, List.length_cons, List.length_nil]
  rw [if_pos (by omega)]
  rfl
theorem j0_true (k : Nat) (a b c d : Int) : spec_MadePalette.j0 (k + 1) a b c d true = some ⟨#[]⟩ := by
  simp only [spec_MadePalette.j0, reduceIte]
theorem j0_false (k : Nat) (a b c d : Int) (h0 : 0 ≤ a) (h1 : a < 16) : spec_MadePalette.j0 (k + 1) a b c d false = spec_MadePalette.l0 k [bt (⟨#[48, 49, 50, 51, 52, 53, 54, 55, 56, 57, 97, 98, 99, 100, 101, 102]⟩ : ByteArray) a] [b, c, d] (([b, c, d] : List Int).length : Int) 0 := by
  simp only [spec_MadePalette.j0]
  rw [if_neg (by decide), if_pos h0, if_pos h1, Option.bind_some]
theorem made_in (k i r g b : Nat) (hi : i < 16) (hr : r < 256) (hg : g < 256) (hb : b < 256) : spec_MadePalette.f (k + 4 + 1) (i : Int) (r : Int) (g : Int) (b : Int) = some (palT i r g b) := by
  have d1 : decide ((i : Int) > 15) = false := decide_eq_false (by omega)
  unfold spec_MadePalette.f
  rw [if_neg (by omega), d1]
  rw [j0_false _ _ _ _ _ (by omega) (by omega)]
  have e1 := round (k + 2 + 1) [hx i] [(r : Int), (g : Int), (b : Int)] 0 r hr (by simp) (by simp) rfl (by simp)
  have e2 := round (k + 1 + 1) ([hx i] ++ [hx (r / 16), hx (r % 16)]) [(r : Int), (g : Int), (b : Int)] 1 g hg (by simp) (by simp) rfl (by simp)
  have e3 := round (k + 0 + 1) (([hx i] ++ [hx (r / 16), hx (r % 16)]) ++ [hx (g / 16), hx (g % 16)]) [(r : Int), (g : Int), (b : Int)] 2 b hb (by simp) (by simp) rfl (by simp)
  refine (e1.trans (e2.trans e3)).trans ?_
  unfold spec_MadePalette.l0
  rw [if_neg (by simp)]
  have hs : strOfNums (((([hx i] ++ [hx (r / 16), hx (r % 16)]) ++ [hx (g / 16), hx (g % 16)]) ++ [hx (b / 16), hx (b % 16)])) = ((h1 i ++ h2 r) ++ h2 g) ++ h2 b := by
    rw [hx_dl i hi, hx_dl (r / 16) (by omega), hx_dl (r % 16) (by omega), hx_dl (g / 16) (by omega), hx_dl (g % 16) (by omega), hx_dl (b / 16) (by omega), hx_dl (b % 16) (by omega)]
    apply ByteArray.ext
    unfold strOfNums h1 h2
    simp [ByteArray.data_append]
  have hz : (((h1 i ++ h2 r) ++ h2 g) ++ h2 b).size = 7 := by simp only [ByteArray.size_append]; rfl
  rw [hs, hz, if_pos (by omega), if_pos (by omega)]
  apply congrArg some
  apply ByteArray.ext
  unfold palT
  simp [ByteArray.data_append]
theorem made_out (k : Nat) (i r g b : Int) (hi : i < 0 ∨ 15 < i) : spec_MadePalette.f (k + 4 + 1) i r g b = some ⟨#[]⟩ := by
  unfold spec_MadePalette.f
  by_cases h : i < 0
  · rw [if_pos h]
    exact j0_true _ _ _ _ _
  · rw [if_neg h, decide_eq_true (p := i > 15) (by omega)]
    exact j0_true _ _ _ _ _

theorem FnPalette : laws_FnPalette.Pure := by
  intro a0 a1 a2 a3 w0 w1 w2 w3
  refine ⟨0 + 4 + 1, ?_⟩
  have b1 := wf_u8 w1
  have b2 := wf_u8 w2
  have b3 := wf_u8 w3
  unfold laws_FnPalette.f
  rw [awake]
  simp only [Option.bind_some, reduceIte]
  unfold impl_Palette.f
  rw [if_pos ⟨b1, b2, b3⟩]
  by_cases hi : a0 < 0 ∨ 15 < a0
  · rw [if_pos hi, made_out _ _ _ _ _ hi]
    simp only [Option.bind_some]
    decide +kernel
  · rw [if_neg hi]
    obtain ⟨i, rfl⟩ := Int.eq_ofNat_of_zero_le (show 0 ≤ a0 by omega)
    obtain ⟨r, rfl⟩ := Int.eq_ofNat_of_zero_le b1.1
    obtain ⟨g, rfl⟩ := Int.eq_ofNat_of_zero_le b2.1
    obtain ⟨b, rfl⟩ := Int.eq_ofNat_of_zero_le b3.1
    rw [made_in 0 i r g b (by omega) (by omega) (by omega) (by omega)]
    simp only [Option.bind_some, Int.toNat_natCast, Int.ofNat_eq_natCast]
    simp
end Go.Proofs.YtjjkagjdbjpikaaDoor.Pure
