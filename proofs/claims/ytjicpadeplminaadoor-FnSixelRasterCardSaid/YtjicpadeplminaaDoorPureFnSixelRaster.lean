/- It is proved that the law FnSixelRaster answers true: raster attributes are written as a quotation mark and two numbers, or four if the image has a size, a Pad of 0 as 1 and 1, by both functions; for all numbers, with no further condition. -/
import Derived.Test.YtjicpadeplminaaDoorPSx2
import Derived.Test.YtjicpadeplminaaDoorSixNumS
namespace Go.Proofs.YtjicpadeplminaaDoor.Pure
open Go Go.RowKit Go.Proofs.YtjicpadeplminaaDoor.PS Go.Proofs.YtjicpadeplminaaDoor.Bld Go.Proofs.YtjicpadeplminaaDoor.SixNum Go.Proofs.YtjicpadeplminaaDoorW.PrintWords Go.Proofs.YtjicpadeplminaaDoorW.PrintLast

theorem ras_wf {a : Int} (h : (Lit.int .i64 a).wf = true) : In a := by
  have h1 : (decide ((-9223372036854775808 : Int) ≤ a) && decide (a ≤ 9223372036854775807)) = true := h
  simp only [Bool.and_eq_true, decide_eq_true_eq] at h1
  exact h1

theorem numK (K : Nat) (hK : 1000 ≤ K) (n : Int) (h : In n) : spec_SixelNumber.f K n = some (digs n) := at_rounds (spec_SixelNumber.mono _) (k := 1000) hK (number n h.1 h.2)

theorem ras_tail (K : Nat) (hK : 1001 ≤ K) (x : ByteArray) (hx : x.size ≤ 100) (a b p q : Int) (hp : In p) (hq : In q) :
    spec_SixelRaster.j1 K x true a b p q = some (x ++ ((((⟨#[59]⟩ : ByteArray) ++ digs p) ++ (⟨#[59]⟩ : ByteArray)) ++ digs q)) := by
  obtain ⟨K, rfl⟩ : ∃ m, K = m + 1 := ⟨K - 1, by omega⟩
  simp only [spec_SixelRaster.j1]
  have zp := digs_size p hp.1 hp.2
  have zq := digs_size q hq.1 hq.2
  rw [if_pos True.intro, numK K (by omega) p hp, numK K (by omega) q hq]
  simp only [Option.bind_some]
  rw [if_pos (by omega), if_pos (by omega), if_pos (by omega), if_pos (by omega)]

theorem ras_head (K : Nat) (hK : 1002 ≤ K) (n m p q : Int) (hn : In n) (hm : In m) (hp : In p) (hq : In q) : spec_SixelRaster.j0 K n m p q = some (rasB n m p q) := by
  obtain ⟨K, rfl⟩ : ∃ m, K = m + 1 := ⟨K - 1, by omega⟩
  simp only [spec_SixelRaster.j0]
  have zn := digs_size n hn.1 hn.2
  have zm := digs_size m hm.1 hm.2
  have k34 : (⟨#[34]⟩ : ByteArray).size = 1 := rfl
  have k59 : (⟨#[59]⟩ : ByteArray).size = 1 := rfl
  have zx : (((((⟨#[34]⟩ : ByteArray) ++ digs n) ++ (⟨#[59]⟩ : ByteArray)) ++ digs m)).size ≤ 100 := by
    simp only [ByteArray.size_append]
    omega
  rw [numK K (by omega) n hn, numK K (by omega) m hm]
  simp only [Option.bind_some]
  rw [if_pos (by omega), if_pos (by omega), if_pos (by omega)]
  unfold rasB
  by_cases h1 : p > 0
  · rw [if_pos h1, if_neg (by omega), ras_tail K (by omega) _ zx _ _ p q hp hq]
    congr 1
    apply ByteArray.ext
    simp [ByteArray.data_append, txt]
  · rw [if_neg h1]
    by_cases h2 : q > 0
    · rw [if_neg (by omega), decide_eq_true h2, ras_tail K (by omega) _ zx _ _ p q hp hq]
      congr 1
      apply ByteArray.ext
      simp [ByteArray.data_append, txt]
    · rw [if_pos (by omega), decide_eq_false h2]
      obtain ⟨K, rfl⟩ : ∃ m, K = m + 1 := ⟨K - 1, by omega⟩
      simp only [spec_SixelRaster.j1]
      rw [if_neg (by simp)]
      rfl

theorem FnSixelRaster (n m p q : Int) (h0 : (Lit.int .i64 n).wf = true) (h1 : (Lit.int .i64 m).wf = true) (h2 : (Lit.int .i64 p).wf = true) (h3 : (Lit.int .i64 q).wf = true) : ∃ k, laws_FnSixelRaster.f k n m p q = some true := by
  have hn := ras_wf h0
  have hm := ras_wf h1
  have hp := ras_wf h2
  have hq := ras_wf h3
  refine ⟨2000, ?_⟩
  have hs : spec_SixelRaster.f 2000 n m p q = some (rasT n m p q) := by
    unfold spec_SixelRaster.f rasT
    by_cases hz : m = 0
    · rw [if_pos hz, if_pos hz]
      exact ras_head 2000 (by omega) 1 1 p q (by unfold In; omega) (by unfold In; omega) hp hq
    · rw [if_neg hz, if_neg hz]
      exact ras_head 2000 (by omega) n m p q hn hm hp hq
  unfold laws_FnSixelRaster.f impl_WriteRaster.f impl_RasterText.f
  rw [hs, if_pos ⟨hn, hm, hp, hq⟩]
  simp only [Option.bind_some]
  rw [if_pos True.intro]
  congr 1
  simp

end Go.Proofs.YtjicpadeplminaaDoor.Pure
