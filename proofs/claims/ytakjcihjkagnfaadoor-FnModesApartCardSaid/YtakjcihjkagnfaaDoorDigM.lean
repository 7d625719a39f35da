/- Numbers in digits: the reference's Digits and strconv.Itoa (by its contract) are one function, 'dig'; how long it is. No memory, no Go. -/
import Derived.Test.YtakjcihjkagnfaaDoorPMx1
import Derived.Lib.ItoaLen
import Derived.Lib.ItoaMem
namespace Go.Proofs.YtakjcihjkagnfaaDoor.Dig
open Go Go.RowKit Go.Proofs.YtakjcihjkagnfaaDoor.PM Go.Proofs.YtakjcihjkagnfaaDoor.Or Go.Proofs.YtakjcihjkagnfaaDoorW.PrintWords Go.Proofs.YtakjcihjkagnfaaDoorW.PrintLast

def dig (n : Int) : ByteArray := ⟨(Lib.itoa n).toArray⟩

theorem itoa_f (n : Int) (h0 : -9223372036854775808 ≤ n) (h1 : n ≤ 9223372036854775807) : strconv_Itoa.f n = some (dig n) := by
  unfold strconv_Itoa.f
  rw [if_pos ⟨h0, h1⟩]
  rfl

theorem dig_size (n : Int) (h0 : -9223372036854775808 ≤ n) (h1 : n ≤ 9223372036854775807) : (dig n).size ≤ 21 := by
  have := Lib.itoa_length_le n h0 h1
  show (Lib.itoa n).toArray.size ≤ 21
  simpa using this

def nat (u : Nat) : ByteArray := ⟨(Lib.decDigits u).toArray⟩
theorem nat_size (u : Nat) (h : u < 18446744073709551616) : (nat u).size ≤ 20 := by
  have := Lib.nDigits_le20 u h
  show (Lib.decDigits u).toArray.size ≤ 20
  rw [List.size_toArray, Lib.decDigits_length]
  exact this
theorem dig_nat (u : Nat) : dig (u : Int) = nat u := by unfold dig nat; rw [Lib.itoa_nonneg]

theorem one (u : Nat) (h : u < 10) : strOfNums [(wrap64 (48 + (u : Int))) % 256] = nat u := by
  have e : (wrap64 (48 + (u : Int))) % 256 = ((48 + u : Nat) : Int) := by unfold wrap64; omega
  rw [e]
  unfold strOfNums nat
  rw [Lib.decDigits_one h]
  simp only [List.map_cons, List.map_nil, Int.toNat_natCast]

theorem append_mk (a b : List UInt8) : (⟨a.toArray⟩ : ByteArray) ++ ⟨b.toArray⟩ = ⟨(a ++ b).toArray⟩ := by
  apply ByteArray.ext
  simp [ByteArray.data_append]

theorem digits_nat : ∀ (k u : Nat), u < 10 ^ (k + 1) → u ≤ 9223372036854775808 → u ≠ 9223372036854775808 → spec_Digits.f (k + 1) (u : Int) = some (nat u) := by
  intro k
  induction k with
  | zero =>
    intro u hu hm _
    have hu : u < 10 := by simpa using hu
    simp only [spec_Digits.f]
    rw [if_neg (by omega), if_pos (by omega), one u hu]
  | succ k ih =>
    intro u hu hm hne
    by_cases h10 : u < 10
    · simp only [spec_Digits.f]
      rw [if_neg (by omega), if_pos (by omega), one u h10]
    · have hq : u / 10 < 10 ^ (k + 1) := by
        have : u < 10 ^ (k + 1) * 10 := by rw [← Nat.pow_succ]; exact hu
        omega
      have hr : u % 10 < 10 ^ (k + 1) := by
        have : 10 ≤ 10 ^ (k + 1) := by rw [Nat.pow_succ]; have : 0 < 10 ^ k := Nat.pow_pos (by decide); omega
        omega
      have e1 : wrap64 (Int.tdiv (u : Int) 10) = ((u / 10 : Nat) : Int) := by
        rw [Int.tdiv_eq_ediv_of_nonneg (by omega)]; unfold wrap64; omega
      have e2 : Int.tmod (u : Int) 10 = ((u % 10 : Nat) : Int) := by
        rw [Int.tmod_eq_emod_of_nonneg (by omega)]; omega
      rw [spec_Digits.f, if_neg (by omega), if_neg (by omega), e1, e2, ih (u / 10) hq (by omega) (by omega), ih (u % 10) hr (by omega) (by omega)]
      simp only [Option.bind_some]
      have s1 := nat_size (u / 10) (by omega)
      have s2 := nat_size (u % 10) (by omega)
      rw [if_pos (by omega)]
      congr 1
      unfold nat
      rw [append_mk]
      conv => rhs; rw [Lib.decDigits, dif_neg h10]
      rw [Lib.decDigits_one (by omega : u % 10 < 10)]

theorem digits (n : Int) (h0 : -9223372036854775808 ≤ n) (h1 : n ≤ 9223372036854775807) (k : Nat) (hk : 30 ≤ k) : spec_Digits.f k n = some (dig n) := by
  obtain ⟨k, rfl⟩ : ∃ m, k = m + 1 := ⟨k - 1, by omega⟩
  have big : ∀ j, 20 ≤ j → 9223372036854775808 < 10 ^ j := fun j hj => Nat.lt_of_lt_of_le (by decide : 9223372036854775808 < 10 ^ 20) (Nat.pow_le_pow_right (by decide) hj)
  by_cases hn : 0 ≤ n
  · obtain ⟨u, rfl⟩ := Int.eq_ofNat_of_zero_le hn
    have := big (k + 1) (by omega)
    rw [digits_nat k u (by omega) (by omega) (by omega), dig_nat]
  · simp only [spec_Digits.f]
    rw [if_pos (by omega)]
    by_cases hm : n = -9223372036854775808
    · rw [if_pos hm]
      subst hm
      decide +kernel
    · rw [if_neg hm]
      obtain ⟨k, rfl⟩ : ∃ m, k = m + 1 := ⟨k - 1, by omega⟩
      obtain ⟨u, hu⟩ : ∃ u : Nat, -n = (u : Int) := Int.eq_ofNat_of_zero_le (by omega)
      have e1 : wrap64 (-n) = (u : Int) := by rw [hu]; unfold wrap64; omega
      have := big (k + 1) (by omega)
      have s1 := nat_size u (by omega)
      rw [e1, digits_nat k u (by omega) (by omega) (by omega)]
      simp only [Option.bind_some]
      rw [if_pos (by omega)]
      congr 1
      have en : n = -(u : Int) := by omega
      rw [en]
      unfold dig nat
      rw [Lib.itoa_neg u (by omega)]
      exact append_mk [45] (Lib.decDigits u)

end Go.Proofs.YtakjcihjkagnfaaDoor.Dig
