/- It is proved that the law FnSixelRepeatRead answers true: a repeat is read to its count, its byte and its length just as the reference reads it; for every list of bytes, with no further condition. -/
import Derived.Test.YtjicpadeplminaaPXx2
import Derived.Test.YtjicpadeplminaaPXx1
import Derived.Test.YtjicpadeplminaaPXx1
import Derived.Test.YtjicpadeplminaaPXx2
namespace Go.Proofs.Ytjicpadeplminaa.Pure
open Go.RowKit Go.Proofs.Ytjicpadeplminaa.PX Go.Proofs.YtjicpadeplminaaW.PrintWords Go.Proofs.YtjicpadeplminaaW.PrintLast

theorem wr1 {i : Int} (h0 : 0 ≤ i) (h : i < 4294967296) : wrap64 (i + 1) = i + 1 := by unfold wrap64; omega

theorem few_tells (b : List Int) (hb : b.length ≤ 200) (d : Nat) : ∀ (k : Nat) (c i : Int), 0 ≤ i → i ≤ b.length → (b.length : Int) - i = d → 2 * d < k →
    ∃ r, spec_FewDigits.l0 k c b (b.length : Int) i = some r := by
  induction d with
  | zero =>
    intro k c i h0 h1 hd hk
    obtain ⟨k, rfl⟩ : ∃ m, k = m + 1 := ⟨k - 1, by omega⟩
    exact ⟨true, by simp only [spec_FewDigits.l0]; rw [if_neg (by omega)]⟩
  | succ d ih =>
    intro k c i h0 h1 hd hk
    obtain ⟨k, rfl⟩ : ∃ m, k = m + 2 := ⟨k - 2, by omega⟩
    have hlt : i < (b.length : Int) := by omega
    have hw := wr1 h0 (by omega)
    have key : ∀ x, ∃ r, spec_FewDigits.j1 (k + 1) c b (b.length : Int) i x = some r := by
      intro x
      simp only [spec_FewDigits.j1, hw]
      obtain ⟨r1, e1⟩ := ih k 0 (i + 1) (by omega) (by omega) (by omega) (by omega)
      obtain ⟨r2, e2⟩ := ih k (wrap64 (c + 1)) (i + 1) (by omega) (by omega) (by omega) (by omega)
      rw [e1, e2]
      split
      · exact ⟨_, rfl⟩
      · split
        · exact ⟨_, rfl⟩
        · exact ⟨_, rfl⟩
    simp only [spec_FewDigits.l0]
    rw [if_pos hlt, if_pos h0, if_pos hlt]
    split
    · exact key _
    · exact key _

theorem read_same (b : List Int) (hb : b.length ≤ 200) (d : Nat) : ∀ (k : Nat) (c i : Int), 0 ≤ i → i ≤ b.length → (b.length : Int) - i = d → d < k →
    ∃ r, sixel_DecodeRepeat.l0 k b i c 0 = some r ∧ spec_SixelRepeatIn.l0 k b c i = some r := by
  induction d with
  | zero =>
    intro k c i h0 h1 hd hk
    obtain ⟨k, rfl⟩ : ∃ m, k = m + 1 := ⟨k - 1, by omega⟩
    have e : i = (b.length : Int) := by omega
    subst e
    exact ⟨(c, 0, (b.length : Int)), by simp only [sixel_DecodeRepeat.l0]; rw [if_neg (by omega)], by simp only [spec_SixelRepeatIn.l0]; rw [if_neg (by omega)]⟩
  | succ d ih =>
    intro k c i h0 h1 hd hk
    obtain ⟨k, rfl⟩ : ∃ m, k = m + 1 := ⟨k - 1, by omega⟩
    have hlt : i < (b.length : Int) := by omega
    have hw := wr1 h0 (by omega)
    simp only [sixel_DecodeRepeat.l0, spec_SixelRepeatIn.l0, hw]
    rw [if_pos hlt, if_pos hlt, if_pos h0, if_pos h0]
    by_cases c1 : rd b i < 48
    · rw [if_neg (by omega), if_pos c1]
      exact ⟨_, rfl, rfl⟩
    · rw [if_pos (by omega), if_neg c1]
      by_cases c2 : rd b i > 57
      · rw [if_neg (by omega), if_pos c2]
        exact ⟨_, rfl, rfl⟩
      · rw [if_pos (by omega), if_neg c2]
        exact ih k _ _ (by omega) (by omega) (by omega) (by omega)

theorem both (b : List Int) (hb : b.length ≤ 200) (k : Nat) (hk : 300 < k) : ∃ r, impl_DecodeRepeat.f k b = some r ∧ spec_SixelRepeatIn.f k b = some r := by
  obtain ⟨k, rfl⟩ : ∃ m, k = m + 1 := ⟨k - 1, by omega⟩
  unfold impl_DecodeRepeat.f impl_own.f
  rw [if_pos (by simp; omega)]
  simp only [Option.bind_some, List.nil_append]
  have key : ∃ r, sixel_DecodeRepeat.f (k + 1) b = some r ∧ spec_SixelRepeatIn.f (k + 1) b = some r := by
    unfold sixel_DecodeRepeat.f spec_SixelRepeatIn.f
    by_cases h0 : b.length = 0
    · rw [if_pos (by omega), if_pos (by omega)]
      simp only [sixel_DecodeRepeat.j0, spec_SixelRepeatIn.j0, if_true]
      exact ⟨_, rfl, rfl⟩
    · rw [if_neg (by omega), if_pos (by omega)]
      by_cases h3 : b.length < 3
      · rw [if_pos (by omega)]
        simp only [sixel_DecodeRepeat.j0, spec_SixelRepeatIn.j0, if_true]
        rw [if_pos (by omega : (b.length : Int) < 3)]
        exact ⟨_, by split <;> rfl, rfl⟩
      · rw [if_neg (by omega), if_pos (by omega)]
        simp only [sixel_DecodeRepeat.j0, spec_SixelRepeatIn.j0]
        by_cases c : (rd b 0 != 33) = true
        · rw [if_pos c, if_pos c]
          exact ⟨_, rfl, rfl⟩
        · rw [if_neg c, if_neg c, if_neg (by omega)]
          exact read_same b hb (b.length - 1) k 0 1 (by omega) (by omega) (by omega) (by omega)
  obtain ⟨r, e1, e2⟩ := key
  exact ⟨r, by rw [e1]; rfl, e2⟩

theorem awake (k : Nat) (hk : 300 < k) : impl_DecodeRepeat.f k [33, 49, 50, 126] = some (12, 126, 4) :=
  at_rounds (impl_DecodeRepeat.mono _) (k := 20) (by omega) (by decide +kernel)

theorem few (b : List Int) (hb : b.length ≤ 200) (k : Nat) (hk : 500 < k) : ∃ r, spec_FewDigits.f k b = some r := by
  unfold spec_FewDigits.f
  exact few_tells b hb b.length k 0 0 (by omega) (by omega) (by omega) (by omega)

theorem FnSixelRepeatRead : laws_FnSixelRepeatRead.Pure := by
  intro b _ _ _
  refine ⟨1000, ?_⟩
  unfold laws_FnSixelRepeatRead.f
  by_cases h1 : (b.length : Int) > 2147483647
  · rw [if_pos h1]
  rw [if_neg h1]
  by_cases h2 : (b.length : Int) > 200
  · rw [if_pos h2]
    rfl
  rw [if_neg h2]
  obtain ⟨t, ht⟩ := few b (by omega) 1000 (by omega)
  rw [ht]
  simp only [Option.bind_some, laws_FnSixelRepeatRead.j0]
  split
  · rfl
  · rw [if_pos (by simp; omega), List.nil_append]
    obtain ⟨r, e1, e2⟩ := both b (by omega) 999 (by omega)
    rw [e1, e2, awake 999 (by omega)]
    simp

end Go.Proofs.Ytjicpadeplminaa.Pure
