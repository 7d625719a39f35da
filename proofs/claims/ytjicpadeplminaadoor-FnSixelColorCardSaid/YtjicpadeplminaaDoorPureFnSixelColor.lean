/- It is proved that the law FnSixelColor answers true: a color is written as its number, and with its system and three components where the system is 1 or 2, by both functions; for all numbers, with no further condition. -/
import Derived.Test.YtjicpadeplminaaDoorPDx1
namespace Go.Proofs.YtjicpadeplminaaDoor.Pure
open Go Go.RowKit Go.Proofs.YtjicpadeplminaaDoor.PD Go.Proofs.YtjicpadeplminaaDoor.Bld Go.Proofs.YtjicpadeplminaaDoor.Col Go.Proofs.YtjicpadeplminaaDoorW.PrintWords Go.Proofs.YtjicpadeplminaaDoorW.PrintLast

theorem col_wf {a : Int} (h : (Lit.int .i64 a).wf = true) : In a := by
  have h1 : (decide ((-9223372036854775808 : Int) ≤ a) && decide (a ≤ 9223372036854775807)) = true := h
  simp only [Bool.and_eq_true, decide_eq_true_eq] at h1
  exact h1

theorem col_same (n m p q r : Int) : colT n m p q r = scolT n m p q r := by
  unfold colT scolT
  by_cases h : m = 1 ∨ m = 2
  · rw [if_pos h, if_neg (by omega)]
    apply ByteArray.ext
    simp [ByteArray.data_append, txt]
  · rw [if_neg h, if_pos (by omega)]
    rfl

theorem FnSixelColor (n m p q r : Int) (h0 : (Lit.int .i64 n).wf = true) (h1 : (Lit.int .i64 m).wf = true) (h2 : (Lit.int .i64 p).wf = true) (h3 : (Lit.int .i64 q).wf = true) (h4 : (Lit.int .i64 r).wf = true) : laws_FnSixelColor.f n m p q r = some true := by
  unfold laws_FnSixelColor.f impl_WriteColor.f spec_SixelColor.f
  have hc : In n ∧ In m ∧ In p ∧ In q ∧ In r := ⟨col_wf h0, col_wf h1, col_wf h2, col_wf h3, col_wf h4⟩
  rw [if_pos hc, if_pos hc, col_same]
  simp only [Option.bind_some]
  congr 1
  simp

end Go.Proofs.YtjicpadeplminaaDoor.Pure
