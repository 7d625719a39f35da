/- It is proved that the law FnMakeNumber answers true: a function of one number makes just the sequence that the reference tells, for every number and every function; with no further condition. -/
import Derived.Test.YtplmmblofhhikaaDoorPXx5
import Derived.Test.YtplmmblofhhikaaDoorDig
namespace Go.Proofs.YtplmmblofhhikaaDoor.Pure
open Go Go.RowKit Go.Proofs.YtplmmblofhhikaaDoor.PX Go.Proofs.YtplmmblofhhikaaDoor.Or Go.Proofs.YtplmmblofhhikaaDoor.Dig Go.Proofs.YtplmmblofhhikaaDoorW.PrintWords Go.Proofs.YtplmmblofhhikaaDoorW.PrintLast

theorem wf_i64 {a : Int} (h : (Lit.int .i64 a).wf = true) : -9223372036854775808 ≤ a ∧ a ≤ 9223372036854775807 := by
  have h1 : (decide ((-9223372036854775808 : Int) ≤ a) && decide (a ≤ 9223372036854775807)) = true := h
  simp only [Bool.and_eq_true, decide_eq_true_eq] at h1
  omega

/-- A number between two texts, left out where it is not above a least one. -/
def sand (p q : ByteArray) (least n : Int) : ByteArray := (p ++ (if n > least then dig n else ⟨#[]⟩)) ++ q

theorem above (k : Nat) (hk : 30 ≤ k) (n l : Int) (h0 : -9223372036854775808 ≤ n) (h1 : n ≤ 9223372036854775807) : spec_madeAbove.f k n l = some (if n > l then dig n else ⟨#[]⟩) := by
  unfold spec_madeAbove.f
  by_cases h : n ≤ l
  · rw [if_pos h, if_neg (by omega)]
  · rw [if_neg h, if_pos (by omega), digits n h0 h1 k hk]; rfl

def L : List S28 := (spec_MadeOnes.f).getD []
theorem L_is : spec_MadeOnes.f = some L := rfl
theorem L_len : (L.length : Int) = 29 := by decide
theorem L_small : (L.all fun x => decide (x.f0.size ≤ 5) && decide (x.f1.size ≤ 5)) = true := by decide +kernel
theorem small (c : Int) (h0 : 0 ≤ c) (h1 : c < 29) : (rd_T28 L c).f0.size ≤ 5 ∧ (rd_T28 L c).f1.size ≤ 5 := by
  obtain ⟨u, rfl⟩ := Int.eq_ofNat_of_zero_le h0
  have hu : u < 29 := by omega
  have key : ((List.range 29).all fun u => decide ((rd_T28 L (u : Int)).f0.size ≤ 5) && decide ((rd_T28 L (u : Int)).f1.size ≤ 5)) = true := by decide +kernel
  have := List.all_eq_true.1 key u (List.mem_range.2 hu)
  simpa using this

theorem ones (k : Nat) (hk : 30 ≤ k) (c : Int) (h0 : 0 ≤ c) (h1 : c < 29) (h23 : c ≠ 23) (n : Int) (hn0 : -9223372036854775808 ≤ n) (hn1 : n ≤ 9223372036854775807) :
    spec_MadeNumber.f (k + 1) c n = some (sand (rd_T28 L c).f0 (rd_T28 L c).f1 (rd_T28 L c).f2 n) := by
  have hs := dig_size n hn0 hn1
  have e33 : (c == 33) = false := by simp; omega
  obtain ⟨s1, s2⟩ := small c h0 h1
  have hl := L_len
  have key : spec_MadeNumber.j0 (k + 1) c n false = some (sand (rd_T28 L c).f0 (rd_T28 L c).f1 (rd_T28 L c).f2 n) := by
    simp only [spec_MadeNumber.j0, L_is, Option.bind_some, above k hk n _ hn0 hn1]
    rw [if_neg (by decide), if_pos h0, if_pos (by omega)]
    unfold sand
    split
    · rw [if_pos (by omega), if_pos (by omega)]
    · have z : (⟨#[]⟩ : ByteArray).size = 0 := rfl
      rw [z, if_pos (by omega), if_pos (by omega)]
  unfold spec_MadeNumber.f
  rw [if_neg h23, if_neg (by omega), if_neg (by omega), if_neg (by omega), if_neg (by omega), e33]
  exact key


theorem c0 (k : Nat) (hk : 40 ≤ k) (n : Int) (h0 : -9223372036854775808 ≤ n) (h1 : n ≤ 9223372036854775807) : impl_MakeNumber.f k 0 n = some (sand (⟨#[27, 91]⟩ : ByteArray) (⟨#[65]⟩ : ByteArray) 1 n) ∧ spec_MadeNumber.f k 0 n = some (sand (⟨#[27, 91]⟩ : ByteArray) (⟨#[65]⟩ : ByteArray) 1 n) := by
  have hs := dig_size n h0 h1
  obtain ⟨k, rfl⟩ : ∃ m, k = m + 1 := ⟨k - 1, by omega⟩
  constructor
  · unfold sand
    by_cases h : n > 1
    · simp (discharger := omega) only [impl_MakeNumber.f, xansi_CursorUp.f, if_pos, if_neg, if_true, itoa_f n h0 h1, Option.bind_some]
    · simp (discharger := omega) only [impl_MakeNumber.f, xansi_CursorUp.f, if_pos, if_neg, if_true, Option.bind_some]
  · exact ones k (by omega) 0 (by omega) (by omega) (by omega) n h0 h1

theorem c1 (k : Nat) (hk : 40 ≤ k) (n : Int) (h0 : -9223372036854775808 ≤ n) (h1 : n ≤ 9223372036854775807) : impl_MakeNumber.f k 1 n = some (sand (⟨#[27, 91]⟩ : ByteArray) (⟨#[66]⟩ : ByteArray) 1 n) ∧ spec_MadeNumber.f k 1 n = some (sand (⟨#[27, 91]⟩ : ByteArray) (⟨#[66]⟩ : ByteArray) 1 n) := by
  have hs := dig_size n h0 h1
  obtain ⟨k, rfl⟩ : ∃ m, k = m + 1 := ⟨k - 1, by omega⟩
  constructor
  · unfold sand
    by_cases h : n > 1
    · simp (discharger := omega) only [impl_MakeNumber.f, xansi_CursorDown.f, if_pos, if_neg, if_true, itoa_f n h0 h1, Option.bind_some]
    · simp (discharger := omega) only [impl_MakeNumber.f, xansi_CursorDown.f, if_pos, if_neg, if_true, Option.bind_some]
  · exact ones k (by omega) 1 (by omega) (by omega) (by omega) n h0 h1

theorem c2 (k : Nat) (hk : 40 ≤ k) (n : Int) (h0 : -9223372036854775808 ≤ n) (h1 : n ≤ 9223372036854775807) : impl_MakeNumber.f k 2 n = some (sand (⟨#[27, 91]⟩ : ByteArray) (⟨#[67]⟩ : ByteArray) 1 n) ∧ spec_MadeNumber.f k 2 n = some (sand (⟨#[27, 91]⟩ : ByteArray) (⟨#[67]⟩ : ByteArray) 1 n) := by
  have hs := dig_size n h0 h1
  obtain ⟨k, rfl⟩ : ∃ m, k = m + 1 := ⟨k - 1, by omega⟩
  constructor
  · unfold sand
    by_cases h : n > 1
    · simp (discharger := omega) only [impl_MakeNumber.f, xansi_CursorForward.f, if_pos, if_neg, if_true, itoa_f n h0 h1, Option.bind_some]
    · simp (discharger := omega) only [impl_MakeNumber.f, xansi_CursorForward.f, if_pos, if_neg, if_true, Option.bind_some]
  · exact ones k (by omega) 2 (by omega) (by omega) (by omega) n h0 h1

theorem c3 (k : Nat) (hk : 40 ≤ k) (n : Int) (h0 : -9223372036854775808 ≤ n) (h1 : n ≤ 9223372036854775807) : impl_MakeNumber.f k 3 n = some (sand (⟨#[27, 91]⟩ : ByteArray) (⟨#[68]⟩ : ByteArray) 1 n) ∧ spec_MadeNumber.f k 3 n = some (sand (⟨#[27, 91]⟩ : ByteArray) (⟨#[68]⟩ : ByteArray) 1 n) := by
  have hs := dig_size n h0 h1
  obtain ⟨k, rfl⟩ : ∃ m, k = m + 1 := ⟨k - 1, by omega⟩
  constructor
  · unfold sand
    by_cases h : n > 1
    · simp (discharger := omega) only [impl_MakeNumber.f, xansi_CursorBackward.f, if_pos, if_neg, if_true, itoa_f n h0 h1, Option.bind_some]
    · simp (discharger := omega) only [impl_MakeNumber.f, xansi_CursorBackward.f, if_pos, if_neg, if_true, Option.bind_some]
  · exact ones k (by omega) 3 (by omega) (by omega) (by omega) n h0 h1

theorem c4 (k : Nat) (hk : 40 ≤ k) (n : Int) (h0 : -9223372036854775808 ≤ n) (h1 : n ≤ 9223372036854775807) : impl_MakeNumber.f k 4 n = some (sand (⟨#[27, 91]⟩ : ByteArray) (⟨#[69]⟩ : ByteArray) 1 n) ∧ spec_MadeNumber.f k 4 n = some (sand (⟨#[27, 91]⟩ : ByteArray) (⟨#[69]⟩ : ByteArray) 1 n) := by
  have hs := dig_size n h0 h1
  obtain ⟨k, rfl⟩ : ∃ m, k = m + 1 := ⟨k - 1, by omega⟩
  constructor
  · unfold sand
    by_cases h : n > 1
    · simp (discharger := omega) only [impl_MakeNumber.f, xansi_CursorNextLine.f, if_pos, if_neg, if_true, itoa_f n h0 h1, Option.bind_some]
    · simp (discharger := omega) only [impl_MakeNumber.f, xansi_CursorNextLine.f, if_pos, if_neg, if_true, Option.bind_some]
  · exact ones k (by omega) 4 (by omega) (by omega) (by omega) n h0 h1

theorem c5 (k : Nat) (hk : 40 ≤ k) (n : Int) (h0 : -9223372036854775808 ≤ n) (h1 : n ≤ 9223372036854775807) : impl_MakeNumber.f k 5 n = some (sand (⟨#[27, 91]⟩ : ByteArray) (⟨#[70]⟩ : ByteArray) 1 n) ∧ spec_MadeNumber.f k 5 n = some (sand (⟨#[27, 91]⟩ : ByteArray) (⟨#[70]⟩ : ByteArray) 1 n) := by
  have hs := dig_size n h0 h1
  obtain ⟨k, rfl⟩ : ∃ m, k = m + 1 := ⟨k - 1, by omega⟩
  constructor
  · unfold sand
    by_cases h : n > 1
    · simp (discharger := omega) only [impl_MakeNumber.f, xansi_CursorPreviousLine.f, if_pos, if_neg, if_true, itoa_f n h0 h1, Option.bind_some]
    · simp (discharger := omega) only [impl_MakeNumber.f, xansi_CursorPreviousLine.f, if_pos, if_neg, if_true, Option.bind_some]
  · exact ones k (by omega) 5 (by omega) (by omega) (by omega) n h0 h1

theorem c6 (k : Nat) (hk : 40 ≤ k) (n : Int) (h0 : -9223372036854775808 ≤ n) (h1 : n ≤ 9223372036854775807) : impl_MakeNumber.f k 6 n = some (sand (⟨#[27, 91]⟩ : ByteArray) (⟨#[71]⟩ : ByteArray) 0 n) ∧ spec_MadeNumber.f k 6 n = some (sand (⟨#[27, 91]⟩ : ByteArray) (⟨#[71]⟩ : ByteArray) 0 n) := by
  have hs := dig_size n h0 h1
  obtain ⟨k, rfl⟩ : ∃ m, k = m + 1 := ⟨k - 1, by omega⟩
  constructor
  · unfold sand
    by_cases h : n > 0
    · simp (discharger := omega) only [impl_MakeNumber.f, xansi_CursorHorizontalAbsolute.f, if_pos, if_neg, if_true, itoa_f n h0 h1, Option.bind_some]
    · simp (discharger := omega) only [impl_MakeNumber.f, xansi_CursorHorizontalAbsolute.f, if_pos, if_neg, if_true, Option.bind_some]
  · exact ones k (by omega) 6 (by omega) (by omega) (by omega) n h0 h1

theorem c7 (k : Nat) (hk : 40 ≤ k) (n : Int) (h0 : -9223372036854775808 ≤ n) (h1 : n ≤ 9223372036854775807) : impl_MakeNumber.f k 7 n = some (sand (⟨#[27, 91]⟩ : ByteArray) (⟨#[73]⟩ : ByteArray) 1 n) ∧ spec_MadeNumber.f k 7 n = some (sand (⟨#[27, 91]⟩ : ByteArray) (⟨#[73]⟩ : ByteArray) 1 n) := by
  have hs := dig_size n h0 h1
  obtain ⟨k, rfl⟩ : ∃ m, k = m + 1 := ⟨k - 1, by omega⟩
  constructor
  · unfold sand
    by_cases h : n > 1
    · simp (discharger := omega) only [impl_MakeNumber.f, xansi_CursorHorizontalForwardTab.f, if_pos, if_neg, if_true, itoa_f n h0 h1, Option.bind_some]
    · simp (discharger := omega) only [impl_MakeNumber.f, xansi_CursorHorizontalForwardTab.f, if_pos, if_neg, if_true, Option.bind_some]
  · exact ones k (by omega) 7 (by omega) (by omega) (by omega) n h0 h1

theorem c8 (k : Nat) (hk : 40 ≤ k) (n : Int) (h0 : -9223372036854775808 ≤ n) (h1 : n ≤ 9223372036854775807) : impl_MakeNumber.f k 8 n = some (sand (⟨#[27, 91]⟩ : ByteArray) (⟨#[90]⟩ : ByteArray) 1 n) ∧ spec_MadeNumber.f k 8 n = some (sand (⟨#[27, 91]⟩ : ByteArray) (⟨#[90]⟩ : ByteArray) 1 n) := by
  have hs := dig_size n h0 h1
  obtain ⟨k, rfl⟩ : ∃ m, k = m + 1 := ⟨k - 1, by omega⟩
  constructor
  · unfold sand
    by_cases h : n > 1
    · simp (discharger := omega) only [impl_MakeNumber.f, xansi_CursorBackwardTab.f, if_pos, if_neg, if_true, itoa_f n h0 h1, Option.bind_some]
    · simp (discharger := omega) only [impl_MakeNumber.f, xansi_CursorBackwardTab.f, if_pos, if_neg, if_true, Option.bind_some]
  · exact ones k (by omega) 8 (by omega) (by omega) (by omega) n h0 h1

theorem c9 (k : Nat) (hk : 40 ≤ k) (n : Int) (h0 : -9223372036854775808 ≤ n) (h1 : n ≤ 9223372036854775807) : impl_MakeNumber.f k 9 n = some (sand (⟨#[27, 91]⟩ : ByteArray) (⟨#[88]⟩ : ByteArray) 1 n) ∧ spec_MadeNumber.f k 9 n = some (sand (⟨#[27, 91]⟩ : ByteArray) (⟨#[88]⟩ : ByteArray) 1 n) := by
  have hs := dig_size n h0 h1
  obtain ⟨k, rfl⟩ : ∃ m, k = m + 1 := ⟨k - 1, by omega⟩
  constructor
  · unfold sand
    by_cases h : n > 1
    · simp (discharger := omega) only [impl_MakeNumber.f, xansi_EraseCharacter.f, if_pos, if_neg, if_true, itoa_f n h0 h1, Option.bind_some]
    · simp (discharger := omega) only [impl_MakeNumber.f, xansi_EraseCharacter.f, if_pos, if_neg, if_true, Option.bind_some]
  · exact ones k (by omega) 9 (by omega) (by omega) (by omega) n h0 h1

theorem c10 (k : Nat) (hk : 40 ≤ k) (n : Int) (h0 : -9223372036854775808 ≤ n) (h1 : n ≤ 9223372036854775807) : impl_MakeNumber.f k 10 n = some (sand (⟨#[27, 91]⟩ : ByteArray) (⟨#[74]⟩ : ByteArray) 0 n) ∧ spec_MadeNumber.f k 10 n = some (sand (⟨#[27, 91]⟩ : ByteArray) (⟨#[74]⟩ : ByteArray) 0 n) := by
  have hs := dig_size n h0 h1
  obtain ⟨k, rfl⟩ : ∃ m, k = m + 1 := ⟨k - 1, by omega⟩
  constructor
  · unfold sand
    by_cases h : n > 0
    · simp (discharger := omega) only [impl_MakeNumber.f, xansi_EraseDisplay.f, if_pos, if_neg, if_true, itoa_f n h0 h1, Option.bind_some]
    · simp (discharger := omega) only [impl_MakeNumber.f, xansi_EraseDisplay.f, if_pos, if_neg, if_true, Option.bind_some]
  · exact ones k (by omega) 10 (by omega) (by omega) (by omega) n h0 h1

theorem c11 (k : Nat) (hk : 40 ≤ k) (n : Int) (h0 : -9223372036854775808 ≤ n) (h1 : n ≤ 9223372036854775807) : impl_MakeNumber.f k 11 n = some (sand (⟨#[27, 91]⟩ : ByteArray) (⟨#[75]⟩ : ByteArray) 0 n) ∧ spec_MadeNumber.f k 11 n = some (sand (⟨#[27, 91]⟩ : ByteArray) (⟨#[75]⟩ : ByteArray) 0 n) := by
  have hs := dig_size n h0 h1
  obtain ⟨k, rfl⟩ : ∃ m, k = m + 1 := ⟨k - 1, by omega⟩
  constructor
  · unfold sand
    by_cases h : n > 0
    · simp (discharger := omega) only [impl_MakeNumber.f, xansi_EraseLine.f, if_pos, if_neg, if_true, itoa_f n h0 h1, Option.bind_some]
    · simp (discharger := omega) only [impl_MakeNumber.f, xansi_EraseLine.f, if_pos, if_neg, if_true, Option.bind_some]
  · exact ones k (by omega) 11 (by omega) (by omega) (by omega) n h0 h1

theorem c12 (k : Nat) (hk : 40 ≤ k) (n : Int) (h0 : -9223372036854775808 ≤ n) (h1 : n ≤ 9223372036854775807) : impl_MakeNumber.f k 12 n = some (sand (⟨#[27, 91]⟩ : ByteArray) (⟨#[83]⟩ : ByteArray) 1 n) ∧ spec_MadeNumber.f k 12 n = some (sand (⟨#[27, 91]⟩ : ByteArray) (⟨#[83]⟩ : ByteArray) 1 n) := by
  have hs := dig_size n h0 h1
  obtain ⟨k, rfl⟩ : ∃ m, k = m + 1 := ⟨k - 1, by omega⟩
  constructor
  · unfold sand
    by_cases h : n > 1
    · simp (discharger := omega) only [impl_MakeNumber.f, xansi_ScrollUp.f, if_pos, if_neg, if_true, itoa_f n h0 h1, Option.bind_some]
    · simp (discharger := omega) only [impl_MakeNumber.f, xansi_ScrollUp.f, if_pos, if_neg, if_true, Option.bind_some]
  · exact ones k (by omega) 12 (by omega) (by omega) (by omega) n h0 h1

theorem c13 (k : Nat) (hk : 40 ≤ k) (n : Int) (h0 : -9223372036854775808 ≤ n) (h1 : n ≤ 9223372036854775807) : impl_MakeNumber.f k 13 n = some (sand (⟨#[27, 91]⟩ : ByteArray) (⟨#[84]⟩ : ByteArray) 1 n) ∧ spec_MadeNumber.f k 13 n = some (sand (⟨#[27, 91]⟩ : ByteArray) (⟨#[84]⟩ : ByteArray) 1 n) := by
  have hs := dig_size n h0 h1
  obtain ⟨k, rfl⟩ : ∃ m, k = m + 1 := ⟨k - 1, by omega⟩
  constructor
  · unfold sand
    by_cases h : n > 1
    · simp (discharger := omega) only [impl_MakeNumber.f, xansi_ScrollDown.f, if_pos, if_neg, if_true, itoa_f n h0 h1, Option.bind_some]
    · simp (discharger := omega) only [impl_MakeNumber.f, xansi_ScrollDown.f, if_pos, if_neg, if_true, Option.bind_some]
  · exact ones k (by omega) 13 (by omega) (by omega) (by omega) n h0 h1

theorem c14 (k : Nat) (hk : 40 ≤ k) (n : Int) (h0 : -9223372036854775808 ≤ n) (h1 : n ≤ 9223372036854775807) : impl_MakeNumber.f k 14 n = some (sand (⟨#[27, 91]⟩ : ByteArray) (⟨#[76]⟩ : ByteArray) 1 n) ∧ spec_MadeNumber.f k 14 n = some (sand (⟨#[27, 91]⟩ : ByteArray) (⟨#[76]⟩ : ByteArray) 1 n) := by
  have hs := dig_size n h0 h1
  obtain ⟨k, rfl⟩ : ∃ m, k = m + 1 := ⟨k - 1, by omega⟩
  constructor
  · unfold sand
    by_cases h : n > 1
    · simp (discharger := omega) only [impl_MakeNumber.f, xansi_InsertLine.f, if_pos, if_neg, if_true, itoa_f n h0 h1, Option.bind_some]
    · simp (discharger := omega) only [impl_MakeNumber.f, xansi_InsertLine.f, if_pos, if_neg, if_true, Option.bind_some]
  · exact ones k (by omega) 14 (by omega) (by omega) (by omega) n h0 h1

theorem c15 (k : Nat) (hk : 40 ≤ k) (n : Int) (h0 : -9223372036854775808 ≤ n) (h1 : n ≤ 9223372036854775807) : impl_MakeNumber.f k 15 n = some (sand (⟨#[27, 91]⟩ : ByteArray) (⟨#[77]⟩ : ByteArray) 1 n) ∧ spec_MadeNumber.f k 15 n = some (sand (⟨#[27, 91]⟩ : ByteArray) (⟨#[77]⟩ : ByteArray) 1 n) := by
  have hs := dig_size n h0 h1
  obtain ⟨k, rfl⟩ : ∃ m, k = m + 1 := ⟨k - 1, by omega⟩
  constructor
  · unfold sand
    by_cases h : n > 1
    · simp (discharger := omega) only [impl_MakeNumber.f, xansi_DeleteLine.f, if_pos, if_neg, if_true, itoa_f n h0 h1, Option.bind_some]
    · simp (discharger := omega) only [impl_MakeNumber.f, xansi_DeleteLine.f, if_pos, if_neg, if_true, Option.bind_some]
  · exact ones k (by omega) 15 (by omega) (by omega) (by omega) n h0 h1

theorem c16 (k : Nat) (hk : 40 ≤ k) (n : Int) (h0 : -9223372036854775808 ≤ n) (h1 : n ≤ 9223372036854775807) : impl_MakeNumber.f k 16 n = some (sand (⟨#[27, 91]⟩ : ByteArray) (⟨#[64]⟩ : ByteArray) 1 n) ∧ spec_MadeNumber.f k 16 n = some (sand (⟨#[27, 91]⟩ : ByteArray) (⟨#[64]⟩ : ByteArray) 1 n) := by
  have hs := dig_size n h0 h1
  obtain ⟨k, rfl⟩ : ∃ m, k = m + 1 := ⟨k - 1, by omega⟩
  constructor
  · unfold sand
    by_cases h : n > 1
    · simp (discharger := omega) only [impl_MakeNumber.f, xansi_InsertCharacter.f, if_pos, if_neg, if_true, itoa_f n h0 h1, Option.bind_some]
    · simp (discharger := omega) only [impl_MakeNumber.f, xansi_InsertCharacter.f, if_pos, if_neg, if_true, Option.bind_some]
  · exact ones k (by omega) 16 (by omega) (by omega) (by omega) n h0 h1

theorem c17 (k : Nat) (hk : 40 ≤ k) (n : Int) (h0 : -9223372036854775808 ≤ n) (h1 : n ≤ 9223372036854775807) : impl_MakeNumber.f k 17 n = some (sand (⟨#[27, 91]⟩ : ByteArray) (⟨#[80]⟩ : ByteArray) 1 n) ∧ spec_MadeNumber.f k 17 n = some (sand (⟨#[27, 91]⟩ : ByteArray) (⟨#[80]⟩ : ByteArray) 1 n) := by
  have hs := dig_size n h0 h1
  obtain ⟨k, rfl⟩ : ∃ m, k = m + 1 := ⟨k - 1, by omega⟩
  constructor
  · unfold sand
    by_cases h : n > 1
    · simp (discharger := omega) only [impl_MakeNumber.f, xansi_DeleteCharacter.f, if_pos, if_neg, if_true, itoa_f n h0 h1, Option.bind_some]
    · simp (discharger := omega) only [impl_MakeNumber.f, xansi_DeleteCharacter.f, if_pos, if_neg, if_true, Option.bind_some]
  · exact ones k (by omega) 17 (by omega) (by omega) (by omega) n h0 h1

theorem c18 (k : Nat) (hk : 40 ≤ k) (n : Int) (h0 : -9223372036854775808 ≤ n) (h1 : n ≤ 9223372036854775807) : impl_MakeNumber.f k 18 n = some (sand (⟨#[27, 91]⟩ : ByteArray) (⟨#[100]⟩ : ByteArray) 0 n) ∧ spec_MadeNumber.f k 18 n = some (sand (⟨#[27, 91]⟩ : ByteArray) (⟨#[100]⟩ : ByteArray) 0 n) := by
  have hs := dig_size n h0 h1
  obtain ⟨k, rfl⟩ : ∃ m, k = m + 1 := ⟨k - 1, by omega⟩
  constructor
  · unfold sand
    by_cases h : n > 0
    · simp (discharger := omega) only [impl_MakeNumber.f, xansi_VerticalPositionAbsolute.f, if_pos, if_neg, if_true, itoa_f n h0 h1, Option.bind_some]
    · simp (discharger := omega) only [impl_MakeNumber.f, xansi_VerticalPositionAbsolute.f, if_pos, if_neg, if_true, Option.bind_some]
  · exact ones k (by omega) 18 (by omega) (by omega) (by omega) n h0 h1

theorem c19 (k : Nat) (hk : 40 ≤ k) (n : Int) (h0 : -9223372036854775808 ≤ n) (h1 : n ≤ 9223372036854775807) : impl_MakeNumber.f k 19 n = some (sand (⟨#[27, 91]⟩ : ByteArray) (⟨#[101]⟩ : ByteArray) 1 n) ∧ spec_MadeNumber.f k 19 n = some (sand (⟨#[27, 91]⟩ : ByteArray) (⟨#[101]⟩ : ByteArray) 1 n) := by
  have hs := dig_size n h0 h1
  obtain ⟨k, rfl⟩ : ∃ m, k = m + 1 := ⟨k - 1, by omega⟩
  constructor
  · unfold sand
    by_cases h : n > 1
    · simp (discharger := omega) only [impl_MakeNumber.f, xansi_VerticalPositionRelative.f, if_pos, if_neg, if_true, itoa_f n h0 h1, Option.bind_some]
    · simp (discharger := omega) only [impl_MakeNumber.f, xansi_VerticalPositionRelative.f, if_pos, if_neg, if_true, Option.bind_some]
  · exact ones k (by omega) 19 (by omega) (by omega) (by omega) n h0 h1

theorem c20 (k : Nat) (hk : 40 ≤ k) (n : Int) (h0 : -9223372036854775808 ≤ n) (h1 : n ≤ 9223372036854775807) : impl_MakeNumber.f k 20 n = some (sand (⟨#[27, 91]⟩ : ByteArray) (⟨#[96]⟩ : ByteArray) 0 n) ∧ spec_MadeNumber.f k 20 n = some (sand (⟨#[27, 91]⟩ : ByteArray) (⟨#[96]⟩ : ByteArray) 0 n) := by
  have hs := dig_size n h0 h1
  obtain ⟨k, rfl⟩ : ∃ m, k = m + 1 := ⟨k - 1, by omega⟩
  constructor
  · unfold sand
    by_cases h : n > 0
    · simp (discharger := omega) only [impl_MakeNumber.f, xansi_HorizontalPositionAbsolute.f, if_pos, if_neg, if_true, itoa_f n h0 h1, Option.bind_some]
    · simp (discharger := omega) only [impl_MakeNumber.f, xansi_HorizontalPositionAbsolute.f, if_pos, if_neg, if_true, Option.bind_some]
  · exact ones k (by omega) 20 (by omega) (by omega) (by omega) n h0 h1

theorem c21 (k : Nat) (hk : 40 ≤ k) (n : Int) (h0 : -9223372036854775808 ≤ n) (h1 : n ≤ 9223372036854775807) : impl_MakeNumber.f k 21 n = some (sand (⟨#[27, 91]⟩ : ByteArray) (⟨#[97]⟩ : ByteArray) 0 n) ∧ spec_MadeNumber.f k 21 n = some (sand (⟨#[27, 91]⟩ : ByteArray) (⟨#[97]⟩ : ByteArray) 0 n) := by
  have hs := dig_size n h0 h1
  obtain ⟨k, rfl⟩ : ∃ m, k = m + 1 := ⟨k - 1, by omega⟩
  constructor
  · unfold sand
    by_cases h : n > 0
    · simp (discharger := omega) only [impl_MakeNumber.f, xansi_HorizontalPositionRelative.f, if_pos, if_neg, if_true, itoa_f n h0 h1, Option.bind_some]
    · simp (discharger := omega) only [impl_MakeNumber.f, xansi_HorizontalPositionRelative.f, if_pos, if_neg, if_true, Option.bind_some]
  · exact ones k (by omega) 21 (by omega) (by omega) (by omega) n h0 h1

theorem c22 (k : Nat) (hk : 40 ≤ k) (n : Int) (h0 : -9223372036854775808 ≤ n) (h1 : n ≤ 9223372036854775807) : impl_MakeNumber.f k 22 n = some (sand (⟨#[27, 91]⟩ : ByteArray) (⟨#[98]⟩ : ByteArray) 1 n) ∧ spec_MadeNumber.f k 22 n = some (sand (⟨#[27, 91]⟩ : ByteArray) (⟨#[98]⟩ : ByteArray) 1 n) := by
  have hs := dig_size n h0 h1
  obtain ⟨k, rfl⟩ : ∃ m, k = m + 1 := ⟨k - 1, by omega⟩
  constructor
  · unfold sand
    by_cases h : n > 1
    · simp (discharger := omega) only [impl_MakeNumber.f, xansi_RepeatPreviousCharacter.f, if_pos, if_neg, if_true, itoa_f n h0 h1, Option.bind_some]
    · simp (discharger := omega) only [impl_MakeNumber.f, xansi_RepeatPreviousCharacter.f, if_pos, if_neg, if_true, Option.bind_some]
  · exact ones k (by omega) 22 (by omega) (by omega) (by omega) n h0 h1

theorem c24 (k : Nat) (hk : 40 ≤ k) (n : Int) (h0 : -9223372036854775808 ≤ n) (h1 : n ≤ 9223372036854775807) : impl_MakeNumber.f k 24 n = some (sand (⟨#[27, 91]⟩ : ByteArray) (⟨#[103]⟩ : ByteArray) 0 n) ∧ spec_MadeNumber.f k 24 n = some (sand (⟨#[27, 91]⟩ : ByteArray) (⟨#[103]⟩ : ByteArray) 0 n) := by
  have hs := dig_size n h0 h1
  obtain ⟨k, rfl⟩ : ∃ m, k = m + 1 := ⟨k - 1, by omega⟩
  constructor
  · unfold sand
    by_cases h : n > 0
    · simp (discharger := omega) only [impl_MakeNumber.f, xansi_TabClear.f, if_pos, if_neg, if_true, itoa_f n h0 h1, Option.bind_some]
    · simp (discharger := omega) only [impl_MakeNumber.f, xansi_TabClear.f, if_pos, if_neg, if_true, Option.bind_some]
  · exact ones k (by omega) 24 (by omega) (by omega) (by omega) n h0 h1

theorem c25 (k : Nat) (hk : 40 ≤ k) (n : Int) (h0 : -9223372036854775808 ≤ n) (h1 : n ≤ 9223372036854775807) : impl_MakeNumber.f k 25 n = some (sand (⟨#[27, 91]⟩ : ByteArray) (⟨#[36, 119]⟩ : ByteArray) 0 n) ∧ spec_MadeNumber.f k 25 n = some (sand (⟨#[27, 91]⟩ : ByteArray) (⟨#[36, 119]⟩ : ByteArray) 0 n) := by
  have hs := dig_size n h0 h1
  obtain ⟨k, rfl⟩ : ∃ m, k = m + 1 := ⟨k - 1, by omega⟩
  constructor
  · unfold sand
    by_cases h : n > 0
    · simp (discharger := omega) only [impl_MakeNumber.f, xansi_RequestPresentationStateReport.f, if_pos, if_neg, if_true, itoa_f n h0 h1, Option.bind_some]
    · simp (discharger := omega) only [impl_MakeNumber.f, xansi_RequestPresentationStateReport.f, if_pos, if_neg, if_true, Option.bind_some]
  · exact ones k (by omega) 25 (by omega) (by omega) (by omega) n h0 h1

theorem c26 (k : Nat) (hk : 40 ≤ k) (n : Int) (h0 : -9223372036854775808 ≤ n) (h1 : n ≤ 9223372036854775807) : impl_MakeNumber.f k 26 n = some (sand (⟨#[27, 91, 62]⟩ : ByteArray) (⟨#[117]⟩ : ByteArray) 0 n) ∧ spec_MadeNumber.f k 26 n = some (sand (⟨#[27, 91, 62]⟩ : ByteArray) (⟨#[117]⟩ : ByteArray) 0 n) := by
  have hs := dig_size n h0 h1
  obtain ⟨k, rfl⟩ : ∃ m, k = m + 1 := ⟨k - 1, by omega⟩
  constructor
  · unfold sand
    by_cases h : n > 0
    · simp (discharger := omega) only [impl_MakeNumber.f, xansi_PushKittyKeyboard.f, if_pos, if_neg, if_true, itoa_f n h0 h1, Option.bind_some]
    · simp (discharger := omega) only [impl_MakeNumber.f, xansi_PushKittyKeyboard.f, if_pos, if_neg, if_true, Option.bind_some]
  · exact ones k (by omega) 26 (by omega) (by omega) (by omega) n h0 h1

theorem c27 (k : Nat) (hk : 40 ≤ k) (n : Int) (h0 : -9223372036854775808 ≤ n) (h1 : n ≤ 9223372036854775807) : impl_MakeNumber.f k 27 n = some (sand (⟨#[27, 91, 60]⟩ : ByteArray) (⟨#[117]⟩ : ByteArray) 0 n) ∧ spec_MadeNumber.f k 27 n = some (sand (⟨#[27, 91, 60]⟩ : ByteArray) (⟨#[117]⟩ : ByteArray) 0 n) := by
  have hs := dig_size n h0 h1
  obtain ⟨k, rfl⟩ : ∃ m, k = m + 1 := ⟨k - 1, by omega⟩
  constructor
  · unfold sand
    by_cases h : n > 0
    · simp (discharger := omega) only [impl_MakeNumber.f, xansi_PopKittyKeyboard.f, if_pos, if_neg, if_true, itoa_f n h0 h1, Option.bind_some]
    · simp (discharger := omega) only [impl_MakeNumber.f, xansi_PopKittyKeyboard.f, if_pos, if_neg, if_true, Option.bind_some]
  · exact ones k (by omega) 27 (by omega) (by omega) (by omega) n h0 h1

theorem c28 (k : Nat) (hk : 40 ≤ k) (n : Int) (h0 : -9223372036854775808 ≤ n) (h1 : n ≤ 9223372036854775807) : impl_MakeNumber.f k 28 n = some (sand (⟨#[27, 91, 63]⟩ : ByteArray) (⟨#[109]⟩ : ByteArray) 0 n) ∧ spec_MadeNumber.f k 28 n = some (sand (⟨#[27, 91, 63]⟩ : ByteArray) (⟨#[109]⟩ : ByteArray) 0 n) := by
  have hs := dig_size n h0 h1
  obtain ⟨k, rfl⟩ : ∃ m, k = m + 1 := ⟨k - 1, by omega⟩
  constructor
  · unfold sand
    by_cases h : n > 0
    · simp (discharger := omega) only [impl_MakeNumber.f, xansi_QueryKeyModifierOptions.f, if_pos, if_neg, if_true, itoa_f n h0 h1, Option.bind_some]
    · simp (discharger := omega) only [impl_MakeNumber.f, xansi_QueryKeyModifierOptions.f, if_pos, if_neg, if_true, Option.bind_some]
  · exact ones k (by omega) 28 (by omega) (by omega) (by omega) n h0 h1

theorem c23 (k : Nat) (hk : 40 ≤ k) (n : Int) (h0 : -9223372036854775808 ≤ n) (h1 : n ≤ 9223372036854775807) : impl_MakeNumber.f k 23 n = some (((⟨#[27, 91]⟩ : ByteArray) ++ dig (mx n 0)) ++ (⟨#[32, 113]⟩ : ByteArray)) ∧ spec_MadeNumber.f k 23 n = some (((⟨#[27, 91]⟩ : ByteArray) ++ dig (mx n 0)) ++ (⟨#[32, 113]⟩ : ByteArray)) := by
  by_cases h : n < 0
  · have e : mx n 0 = 0 := by unfold mx; rw [if_pos h]
    have hs := dig_size 0 (by omega) (by omega)
    rw [e]
    constructor
    · simp (discharger := omega) only [impl_MakeNumber.f, xansi_SetCursorStyle.f, if_pos, if_neg, if_true, itoa_f 0, Option.bind_some]
    · simp (discharger := omega) only [spec_MadeNumber.f, e, if_pos, if_neg, if_true, digits 0, Option.bind_some]
  · have e : mx n 0 = n := by unfold mx; rw [if_neg h]
    have hs := dig_size n h0 h1
    rw [e]
    constructor
    · simp (discharger := omega) only [impl_MakeNumber.f, xansi_SetCursorStyle.f, if_pos, if_neg, if_true, itoa_f n h0 h1, Option.bind_some]
    · simp (discharger := omega) only [spec_MadeNumber.f, e, if_pos, if_neg, if_true, digits n h0 h1, Option.bind_some]

theorem c29 (k : Nat) (hk : 40 ≤ k) (n : Int) (h0 : -9223372036854775808 ≤ n) (h1 : n ≤ 9223372036854775807) : impl_MakeNumber.f k 29 n = some (((⟨#[27, 91, 62]⟩ : ByteArray) ++ dig n) ++ (⟨#[109]⟩ : ByteArray)) ∧ spec_MadeNumber.f k 29 n = some (((⟨#[27, 91, 62]⟩ : ByteArray) ++ dig n) ++ (⟨#[109]⟩ : ByteArray)) := by
  have hs := dig_size n h0 h1
  obtain ⟨k, rfl⟩ : ∃ m, k = m + 1 := ⟨k - 1, by omega⟩
  have e : ((([] : List Int).length : Nat) : Int) = 0 := rfl
  constructor
  · by_cases h : n > 0
    · simp (discharger := omega) only [impl_MakeNumber.f, xansi_ResetKeyModifierOptions.f, xansi_KeyModifierOptions.f, xansi_KeyModifierOptions.j0, e, if_pos, if_neg, if_true, itoa_f n h0 h1, Option.bind_some]
    · simp (discharger := omega) only [impl_MakeNumber.f, xansi_ResetKeyModifierOptions.f, xansi_KeyModifierOptions.f, xansi_KeyModifierOptions.j0, e, if_pos, if_neg, if_true, itoa_f n h0 h1, Option.bind_some]
  · simp (discharger := omega) only [spec_MadeNumber.f, if_pos, if_neg, if_true, digits n h0 h1, Option.bind_some]

theorem c30 (k : Nat) (hk : 40 ≤ k) (n : Int) (h0 : -9223372036854775808 ≤ n) (h1 : n ≤ 9223372036854775807) : impl_MakeNumber.f k 30 n = some (((⟨#[27, 91, 62, 52, 59]⟩ : ByteArray) ++ dig n) ++ (⟨#[109]⟩ : ByteArray)) ∧ spec_MadeNumber.f k 30 n = some (((⟨#[27, 91, 62, 52, 59]⟩ : ByteArray) ++ dig n) ++ (⟨#[109]⟩ : ByteArray)) := by
  have hs := dig_size n h0 h1
  constructor
  · simp (discharger := omega) only [impl_MakeNumber.f, xansi_ModifyOtherKeys.f, if_pos, if_neg, if_true, itoa_f n h0 h1, Option.bind_some]
  · simp (discharger := omega) only [spec_MadeNumber.f, if_pos, if_neg, if_true, digits n h0 h1, Option.bind_some]

theorem mxc (n : Int) : mx 0 n = mx n 0 := by unfold mx; split <;> split <;> omega
theorem clip (n : Int) : 0 ≤ mn (mx n 0) 100 ∧ mn (mx n 0) 100 ≤ 100 := by unfold mn mx; split <;> split <;> omega
theorem bars (k : Nat) (hk : 39 ≤ k) (n c : Int) (w : UInt8) (hc : c = 31 ∧ w = 49 ∨ c = 32 ∧ w = 50 ∨ c = 33 ∧ w = 52) :
    spec_MadeNumber.j0 (k + 1) c n true = some (((((⟨#[27, 93, 57, 59, 52, 59]⟩ : ByteArray) ++ (⟨#[w]⟩ : ByteArray)) ++ (⟨#[59]⟩ : ByteArray)) ++ dig (mn (mx n 0) 100)) ++ (⟨#[7]⟩ : ByteArray)) := by
  obtain ⟨g0, g1⟩ := clip n
  have hs := dig_size (mn (mx n 0) 100) (by omega) (by omega)
  have hd := digits (mn (mx n 0) 100) (by omega) (by omega) k (by omega)
  have e : ∀ x : Int, wrap64 (c - 31) = x → 0 ≤ x → x < 3 → rdOf ByteArray.empty [(⟨#[49]⟩ : ByteArray), (⟨#[50]⟩ : ByteArray), (⟨#[52]⟩ : ByteArray)] x = ⟨#[w]⟩ → spec_MadeNumber.j0 (k + 1) c n true = some (((((⟨#[27, 93, 57, 59, 52, 59]⟩ : ByteArray) ++ (⟨#[w]⟩ : ByteArray)) ++ (⟨#[59]⟩ : ByteArray)) ++ dig (mn (mx n 0) 100)) ++ (⟨#[7]⟩ : ByteArray)) := by
    intro x hx h0 h3 hr
    have z : (⟨#[w]⟩ : ByteArray).size = 1 := rfl
    have l3 : (([(⟨#[49]⟩ : ByteArray), (⟨#[50]⟩ : ByteArray), (⟨#[52]⟩ : ByteArray)].length : Nat) : Int) = 3 := rfl
    simp only [spec_MadeNumber.j0, Option.bind_some, if_true, hx, hr, hd, z, l3]
    rw [if_pos h0, if_pos h3, if_pos (by omega), if_pos (by omega), if_pos (by omega), if_pos (by omega)]
  rcases hc with ⟨rfl, rfl⟩ | ⟨rfl, rfl⟩ | ⟨rfl, rfl⟩
  · exact e 0 (by decide +kernel) (by omega) (by omega) rfl
  · exact e 1 (by decide +kernel) (by omega) (by omega) rfl
  · exact e 2 (by decide +kernel) (by omega) (by omega) rfl
theorem joined (a b c d : ByteArray) (x : ByteArray) : (((a ++ b) ++ c) ++ d) ++ x = ((a ++ b ++ c) ++ d) ++ x := rfl

theorem c31 (k : Nat) (hk : 40 ≤ k) (n : Int) (_h0 : -9223372036854775808 ≤ n) (_h1 : n ≤ 9223372036854775807) : impl_MakeNumber.f k 31 n = some (((⟨#[27, 93, 57, 59, 52, 59, 49, 59]⟩ : ByteArray) ++ dig (mn (mx n 0) 100)) ++ (⟨#[7]⟩ : ByteArray)) ∧ spec_MadeNumber.f k 31 n = some (((⟨#[27, 93, 57, 59, 52, 59, 49, 59]⟩ : ByteArray) ++ dig (mn (mx n 0) 100)) ++ (⟨#[7]⟩ : ByteArray)) := by
  obtain ⟨g0, g1⟩ := clip n
  have hs := dig_size (mn (mx n 0) 100) (by omega) (by omega)
  obtain ⟨k, rfl⟩ : ∃ m, k = m + 1 := ⟨k - 1, by omega⟩
  constructor
  · have hi := itoa_f (mn (mx n 0) 100) (by omega) (by omega)
    simp (discharger := omega) only [impl_MakeNumber.f, xansi_SetProgressBar.f, mxc, if_pos, if_neg, if_true, hi, Option.bind_some]
  · have hb := bars k (by omega) n 31 49 (by decide)
    have e : spec_MadeNumber.f (k + 1) 31 n = spec_MadeNumber.j0 (k + 1) 31 n true := rfl
    rw [e, hb]
    rfl

theorem c32 (k : Nat) (hk : 40 ≤ k) (n : Int) (_h0 : -9223372036854775808 ≤ n) (_h1 : n ≤ 9223372036854775807) : impl_MakeNumber.f k 32 n = some (((⟨#[27, 93, 57, 59, 52, 59, 50, 59]⟩ : ByteArray) ++ dig (mn (mx n 0) 100)) ++ (⟨#[7]⟩ : ByteArray)) ∧ spec_MadeNumber.f k 32 n = some (((⟨#[27, 93, 57, 59, 52, 59, 50, 59]⟩ : ByteArray) ++ dig (mn (mx n 0) 100)) ++ (⟨#[7]⟩ : ByteArray)) := by
  obtain ⟨g0, g1⟩ := clip n
  have hs := dig_size (mn (mx n 0) 100) (by omega) (by omega)
  obtain ⟨k, rfl⟩ : ∃ m, k = m + 1 := ⟨k - 1, by omega⟩
  constructor
  · have hi := itoa_f (mn (mx n 0) 100) (by omega) (by omega)
    simp (discharger := omega) only [impl_MakeNumber.f, xansi_SetErrorProgressBar.f, mxc, if_pos, if_neg, if_true, hi, Option.bind_some]
  · have hb := bars k (by omega) n 32 50 (by decide)
    have e : spec_MadeNumber.f (k + 1) 32 n = spec_MadeNumber.j0 (k + 1) 32 n true := rfl
    rw [e, hb]
    rfl

theorem c33 (k : Nat) (hk : 40 ≤ k) (n : Int) (_h0 : -9223372036854775808 ≤ n) (_h1 : n ≤ 9223372036854775807) : impl_MakeNumber.f k 33 n = some (((⟨#[27, 93, 57, 59, 52, 59, 52, 59]⟩ : ByteArray) ++ dig (mn (mx n 0) 100)) ++ (⟨#[7]⟩ : ByteArray)) ∧ spec_MadeNumber.f k 33 n = some (((⟨#[27, 93, 57, 59, 52, 59, 52, 59]⟩ : ByteArray) ++ dig (mn (mx n 0) 100)) ++ (⟨#[7]⟩ : ByteArray)) := by
  obtain ⟨g0, g1⟩ := clip n
  have hs := dig_size (mn (mx n 0) 100) (by omega) (by omega)
  obtain ⟨k, rfl⟩ : ∃ m, k = m + 1 := ⟨k - 1, by omega⟩
  constructor
  · have hi := itoa_f (mn (mx n 0) 100) (by omega) (by omega)
    simp (discharger := omega) only [impl_MakeNumber.f, xansi_SetWarningProgressBar.f, mxc, if_pos, if_neg, if_true, hi, Option.bind_some]
  · have hb := bars k (by omega) n 33 52 (by decide)
    have e : spec_MadeNumber.f (k + 1) 33 n = spec_MadeNumber.j0 (k + 1) 33 n true := rfl
    rw [e, hb]
    rfl

theorem same (k : Nat) (hk : 40 ≤ k) (c n : Int) (hc0 : 0 ≤ c) (hc1 : c < 34) (h0 : -9223372036854775808 ≤ n) (h1 : n ≤ 9223372036854775807) : ∃ r, impl_MakeNumber.f k c n = some r ∧ spec_MadeNumber.f k c n = some r := by
  have : c = 0 ∨ c = 1 ∨ c = 2 ∨ c = 3 ∨ c = 4 ∨ c = 5 ∨ c = 6 ∨ c = 7 ∨ c = 8 ∨ c = 9 ∨ c = 10 ∨ c = 11 ∨ c = 12 ∨ c = 13 ∨ c = 14 ∨ c = 15 ∨ c = 16 ∨ c = 17 ∨ c = 18 ∨ c = 19 ∨ c = 20 ∨ c = 21 ∨ c = 22 ∨ c = 23 ∨ c = 24 ∨ c = 25 ∨ c = 26 ∨ c = 27 ∨ c = 28 ∨ c = 29 ∨ c = 30 ∨ c = 31 ∨ c = 32 ∨ c = 33 := by omega
  rcases this with rfl | rfl | rfl | rfl | rfl | rfl | rfl | rfl | rfl | rfl | rfl | rfl | rfl | rfl | rfl | rfl | rfl | rfl | rfl | rfl | rfl | rfl | rfl | rfl | rfl | rfl | rfl | rfl | rfl | rfl | rfl | rfl | rfl | rfl
  · exact ⟨_, c0 k hk n h0 h1⟩
  · exact ⟨_, c1 k hk n h0 h1⟩
  · exact ⟨_, c2 k hk n h0 h1⟩
  · exact ⟨_, c3 k hk n h0 h1⟩
  · exact ⟨_, c4 k hk n h0 h1⟩
  · exact ⟨_, c5 k hk n h0 h1⟩
  · exact ⟨_, c6 k hk n h0 h1⟩
  · exact ⟨_, c7 k hk n h0 h1⟩
  · exact ⟨_, c8 k hk n h0 h1⟩
  · exact ⟨_, c9 k hk n h0 h1⟩
  · exact ⟨_, c10 k hk n h0 h1⟩
  · exact ⟨_, c11 k hk n h0 h1⟩
  · exact ⟨_, c12 k hk n h0 h1⟩
  · exact ⟨_, c13 k hk n h0 h1⟩
  · exact ⟨_, c14 k hk n h0 h1⟩
  · exact ⟨_, c15 k hk n h0 h1⟩
  · exact ⟨_, c16 k hk n h0 h1⟩
  · exact ⟨_, c17 k hk n h0 h1⟩
  · exact ⟨_, c18 k hk n h0 h1⟩
  · exact ⟨_, c19 k hk n h0 h1⟩
  · exact ⟨_, c20 k hk n h0 h1⟩
  · exact ⟨_, c21 k hk n h0 h1⟩
  · exact ⟨_, c22 k hk n h0 h1⟩
  · exact ⟨_, c23 k hk n h0 h1⟩
  · exact ⟨_, c24 k hk n h0 h1⟩
  · exact ⟨_, c25 k hk n h0 h1⟩
  · exact ⟨_, c26 k hk n h0 h1⟩
  · exact ⟨_, c27 k hk n h0 h1⟩
  · exact ⟨_, c28 k hk n h0 h1⟩
  · exact ⟨_, c29 k hk n h0 h1⟩
  · exact ⟨_, c30 k hk n h0 h1⟩
  · exact ⟨_, c31 k hk n h0 h1⟩
  · exact ⟨_, c32 k hk n h0 h1⟩
  · exact ⟨_, c33 k hk n h0 h1⟩

theorem awake (k : Nat) (hk : 40 ≤ k) : laws_makeAwake.f k = some true := by
  unfold laws_makeAwake.f
  rw [(c0 k hk 2 (by omega) (by omega)).1]
  decide +kernel

theorem FnMakeNumber : laws_FnMakeNumber.Pure := by
  intro c n _ hn
  have hn := wf_i64 hn
  refine ⟨50, ?_⟩
  unfold laws_FnMakeNumber.f
  by_cases h1 : c < 0
  · rw [if_pos h1]
    simp only [laws_FnMakeNumber.j0, if_true, awake 49 (by omega), Option.bind_some]
  rw [if_neg h1]
  by_cases h2 : c ≥ 34
  · have e : decide (c ≥ 34) = true := decide_eq_true h2
    rw [e]
    simp only [laws_FnMakeNumber.j0, if_true, awake 49 (by omega), Option.bind_some]
  have e : decide (c ≥ 34) = false := decide_eq_false h2
  obtain ⟨r, e1, e2⟩ := same 49 (by omega) c n (by omega) (by omega) hn.1 hn.2
  rw [e]
  simp only [laws_FnMakeNumber.j0, awake 49 (by omega), Option.bind_some, e1, e2]
  simp

end Go.Proofs.YtplmmblofhhikaaDoor.Pure
