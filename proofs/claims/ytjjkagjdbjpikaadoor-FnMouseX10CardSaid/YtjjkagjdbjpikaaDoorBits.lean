/- Plain arithmetic of Go's bit operations on int: masks and joins as remainders and sums. No program in sight. -/
import Derived.Laws.BitsAllLaws
import Derived.Laws.BitsLemmas
import GoSem.Claim
import Derived.RowKit
namespace Go.Proofs.YtjjkagjdbjpikaaDoor.B
open Go

theorem and255 (n : Int) : bits .and .i64 n 255 = n % 256 := by
  have h : (BitVec.ofInt 64 255).toNat = 2 ^ 8 - 1 := by decide
  have key : (BitVec.ofInt 64 n &&& BitVec.ofInt 64 255).toNat = (n % ((2 ^ 64 : Nat) : Int)).toNat % 2 ^ 8 := by
    rw [BitVec.toNat_and, BitVec.toNat_ofInt, h, Nat.and_two_pow_sub_one_eq_mod]
  show IntKind.i64.wrap ((BitVec.ofInt 64 n &&& BitVec.ofInt 64 255).toNat : Nat) = n % 256
  rw [key, IntKind.wrap_i64]
  omega

theorem and31 (n : Int) : bits .and .i64 n 2147483647 = n % 2147483648 := by
  have h : (BitVec.ofInt 64 2147483647).toNat = 2 ^ 31 - 1 := by decide
  have key : (BitVec.ofInt 64 n &&& BitVec.ofInt 64 2147483647).toNat = (n % ((2 ^ 64 : Nat) : Int)).toNat % 2 ^ 31 := by
    rw [BitVec.toNat_and, BitVec.toNat_ofInt, h, Nat.and_two_pow_sub_one_eq_mod]
  show IntKind.i64.wrap ((BitVec.ofInt 64 n &&& BitVec.ofInt 64 2147483647).toNat : Nat) = n % 2147483648
  rw [key, IntKind.wrap_i64]
  omega

theorem hi31 (n : Int) (h0 : -9223372036854775808 ≤ n) (h1 : n ≤ 9223372036854775807) : bits .and .i64 n (-2147483648) = n / 2147483648 * 2147483648 := by
  have h : (BitVec.ofInt 64 (-2147483648)).toNat = 18446744071562067968 := by decide
  have key : (BitVec.ofInt 64 n &&& BitVec.ofInt 64 (-2147483648)).toNat = (n % ((2 ^ 64 : Nat) : Int)).toNat % 18446744073709551616 / 2147483648 * 2147483648 := by
    rw [BitVec.toNat_and, BitVec.toNat_ofInt, h, nat_hi64_31]
  show IntKind.i64.wrap ((BitVec.ofInt 64 n &&& BitVec.ofInt 64 (-2147483648)).toNat : Nat) = _
  rw [key, IntKind.wrap_i64]
  omega

theorem or_join (j : Nat) (x y : Int) (hx0 : -9223372036854775808 ≤ x) (hx1 : x + y ≤ 9223372036854775807) (hj : j ≤ 62) (hx : x % (2 ^ j : Nat) = 0) (hy0 : 0 ≤ y) (hy : y < (2 ^ j : Nat)) : bits .or .i64 x y = x + y := by
  have hd : ((2 ^ j : Nat) : Int) ∣ ((2 ^ 64 : Nat) : Int) := Int.natCast_dvd_natCast.mpr (Nat.pow_dvd_pow 2 (by omega))
  have e1 : (x % ((2 ^ 64 : Nat) : Int)).toNat % 2 ^ j = 0 := by
    have h1 : (x % ((2 ^ 64 : Nat) : Int)) % (2 ^ j : Nat) = 0 := by rw [Int.emod_emod_of_dvd _ hd]; exact hx
    have h2 : 0 ≤ x % ((2 ^ 64 : Nat) : Int) := by omega
    have h3 : (((x % ((2 ^ 64 : Nat) : Int)).toNat : Nat) : Int) = x % ((2 ^ 64 : Nat) : Int) := Int.toNat_of_nonneg h2
    have h4 : (((x % ((2 ^ 64 : Nat) : Int)).toNat % 2 ^ j : Nat) : Int) = 0 := by rw [Int.natCast_emod, h3]; exact h1
    exact_mod_cast h4
  have hyn : ((y.toNat : Nat) : Int) = y := Int.toNat_of_nonneg hy0
  have hy2 : y.toNat < 2 ^ j := by
    have : ((y.toNat : Nat) : Int) < ((2 ^ j : Nat) : Int) := by rw [hyn]; exact hy
    exact_mod_cast this
  have hp : 2 ^ j ≤ 2 ^ 62 := Nat.pow_le_pow_right (by decide) hj
  have hy3 : y.toNat < 2 ^ 62 := Nat.lt_of_lt_of_le hy2 hp
  have key : (BitVec.ofInt 64 x ||| BitVec.ofInt 64 y).toNat = (x % ((2 ^ 64 : Nat) : Int)).toNat + y.toNat := by
    have ey : (y % ((2 ^ 64 : Nat) : Int)).toNat = y.toNat := by omega
    rw [BitVec.toNat_or, BitVec.toNat_ofInt, BitVec.toNat_ofInt, ey, nat_join j _ _ e1 hy2]
  show IntKind.i64.wrap ((BitVec.ofInt 64 x ||| BitVec.ofInt 64 y).toNat : Nat) = _
  rw [key, IntKind.wrap_i64]
  omega

theorem or_comm (x y : Int) : bits .or .i64 x y = bits .or .i64 y x := by simp only [bits, BitVec.or_comm]

theorem w64 {n : Int} (h0 : -9223372036854775808 ≤ n) (h1 : n ≤ 9223372036854775807) : Go.RowKit.wrap64 n = n := by unfold Go.RowKit.wrap64; omega

theorem wf_i64 {a : Int} (h : (Lit.int .i64 a).wf = true) : -9223372036854775808 ≤ a ∧ a ≤ 9223372036854775807 := by
  have h1 : (decide ((-9223372036854775808 : Int) ≤ a) && decide (a ≤ 9223372036854775807)) = true := h
  simp only [Bool.and_eq_true, decide_eq_true_eq] at h1
  omega

theorem wf_u8 {a : Int} (h : (Lit.int .u8 a).wf = true) : 0 ≤ a ∧ a < 256 := by
  have h1 : (decide ((0 : Int) ≤ a) && decide (a ≤ 255)) = true := h
  simp only [Bool.and_eq_true, decide_eq_true_eq] at h1
  omega

end Go.Proofs.YtjjkagjdbjpikaaDoor.B
