/- It is proved that the law FnSixelColorRead answers true: a color is read to its number, its system, its components and its length just as the reference reads it; for every list of bytes, with no further condition. -/
import Derived.Test.YtjicpadeplminaaPNx3
import Derived.Test.YtjicpadeplminaaPNx3
import Derived.Test.YtjicpadeplminaaPNx3
namespace Go.Proofs.Ytjicpadeplminaa.PureC
open Go.RowKit Go.Proofs.Ytjicpadeplminaa.PN Go.Proofs.Ytjicpadeplminaa.Or Go.Proofs.Ytjicpadeplminaa.Nums Go.Proofs.YtjicpadeplminaaW.PrintWords Go.Proofs.YtjicpadeplminaaW.PrintLast

theorem wr1 {i : Int} (h0 : 0 ≤ i) (h : i < 4294967296) : wrap64 (i + 1) = i + 1 := by unfold wrap64; omega

theorem few_tells (b : List Int) (hb : b.length ≤ 200) (d : Nat) : ∀ (k : Nat) (c i : Int), 0 ≤ i → i ≤ b.length → (b.length : Int) - i = d → 2 * d < k →
    ∃ r, spec_FewDigits.l0 k c b (b.length : Int) i = some r := by
  induction d with
  | zero =>
    intro k c i h0 h1 hd hk
    obtain ⟨k, rfl⟩ : ∃ m, k = m + 1 := ⟨k - 1, by omega⟩
    exact ⟨true, by simp only [spec_FewDigits.l0]; rw [if_neg (by omega)]⟩
  | succ d ih =>
    intro k c i h0 h1 hd hk
    obtain ⟨k, rfl⟩ : ∃ m, k = m + 2 := ⟨k - 2, by omega⟩
    have hlt : i < (b.length : Int) := by omega
    have hw := wr1 h0 (by omega)
    have key : ∀ x, ∃ r, spec_FewDigits.j1 (k + 1) c b (b.length : Int) i x = some r := by
      intro x
      simp only [spec_FewDigits.j1, hw]
      obtain ⟨r1, e1⟩ := ih k 0 (i + 1) (by omega) (by omega) (by omega) (by omega)
      obtain ⟨r2, e2⟩ := ih k (wrap64 (c + 1)) (i + 1) (by omega) (by omega) (by omega) (by omega)
      rw [e1, e2]
      split
      · exact ⟨_, rfl⟩
      · split
        · exact ⟨_, rfl⟩
        · exact ⟨_, rfl⟩
    simp only [spec_FewDigits.l0]
    rw [if_pos hlt, if_pos h0, if_pos hlt]
    split
    · exact key _
    · exact key _

theorem few (b : List Int) (hb : b.length ≤ 200) (k : Nat) (hk : 500 < k) : ∃ r, spec_FewDigits.f k b = some r := by
  unfold spec_FewDigits.f
  exact few_tells b hb b.length k 0 0 (by omega) (by omega) (by omega) (by omega)


theorem both (b : List Int) (hb : b.length ≤ 200) : ∃ r, impl_DecodeColor.f b = some r ∧ spec_SixelColorIn.f b = some r := by
  unfold impl_DecodeColor.f impl_own.f
  rw [if_pos (by simp; omega)]
  simp only [Option.bind_some, List.nil_append]
  unfold sixel_DecodeColor.f spec_SixelColorIn.f
  rw [if_pos (by omega)]
  exact ⟨_, rfl, rfl⟩

theorem awake : impl_DecodeColor.f [35, 51] = some (3, 0, 0, 0, 0, 2) := by decide +kernel

theorem FnSixelColorRead : laws_FnSixelColorRead.Pure := by
  intro b _ _ _
  refine ⟨1000, ?_⟩
  unfold laws_FnSixelColorRead.f
  by_cases h1 : (b.length : Int) > 2147483647
  · rw [if_pos h1]
  rw [if_neg h1]
  by_cases h2 : (b.length : Int) > 200
  · rw [if_pos h2]
    rfl
  rw [if_neg h2]
  obtain ⟨t, ht⟩ := few b (by omega) 1000 (by omega)
  rw [ht]
  simp only [Option.bind_some, laws_FnSixelColorRead.j0]
  split
  · rfl
  · rw [if_pos (by simp; omega), List.nil_append]
    obtain ⟨r, e1, e2⟩ := both b (by omega)
    rw [e1, e2, awake]
    simp

end Go.Proofs.Ytjicpadeplminaa.PureC
namespace Go.Proofs.Ytjicpadeplminaa.Pure
theorem FnSixelColorRead : Go.Proofs.Ytjicpadeplminaa.PN.laws_FnSixelColorRead.Pure := PureC.FnSixelColorRead
end Go.Proofs.Ytjicpadeplminaa.Pure
