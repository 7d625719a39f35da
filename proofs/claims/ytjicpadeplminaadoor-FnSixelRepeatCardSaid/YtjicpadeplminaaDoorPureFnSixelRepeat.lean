/- It is proved that the law FnSixelRepeat answers true: a repeat is written as an exclamation mark, the count and the character, by both functions; for every count and every byte, with no further condition. -/
import Derived.Test.YtjicpadeplminaaDoorPRx2
import Derived.Test.YtjicpadeplminaaDoorSixNumR
namespace Go.Proofs.YtjicpadeplminaaDoor.Pure
open Go Go.RowKit Go.Proofs.YtjicpadeplminaaDoor.PR Go.Proofs.YtjicpadeplminaaDoor.Bld Go.Proofs.YtjicpadeplminaaDoor.SixNum Go.Proofs.YtjicpadeplminaaDoorW.PrintWords Go.Proofs.YtjicpadeplminaaDoorW.PrintLast

theorem enc_one (c : Int) (h0 : 0 ≤ c) (h1 : c < 128) : Utf8.encode c = strOfNums [c] ∧ (strOfNums [c]).size = 1 := by
  obtain ⟨u, rfl⟩ := Int.eq_ofNat_of_zero_le h0
  have key : ((List.range 128).all fun u => ((Utf8.encode (u : Int)).data.toList == (strOfNums [(u : Int)]).data.toList) && decide ((strOfNums [(u : Int)]).size = 1)) = true := by decide +kernel
  have := List.all_eq_true.1 key u (List.mem_range.2 (by omega))
  simp only [Bool.and_eq_true, decide_eq_true_eq] at this
  exact ⟨ByteArray.ext (Array.toList_inj.1 (eq_of_beq this.1)), this.2⟩

theorem rep_wf_i64 {a : Int} (h : (Lit.int .i64 a).wf = true) : -9223372036854775808 ≤ a ∧ a ≤ 9223372036854775807 := by
  have h1 : (decide ((-9223372036854775808 : Int) ≤ a) && decide (a ≤ 9223372036854775807)) = true := h
  simp only [Bool.and_eq_true, decide_eq_true_eq] at h1
  omega
theorem rep_wf_u8 {a : Int} (h : (Lit.int .u8 a).wf = true) : 0 ≤ a ∧ a < 256 := by
  have h1 : (decide ((0 : Int) ≤ a) && decide (a ≤ 255)) = true := h
  simp only [Bool.and_eq_true, decide_eq_true_eq] at h1
  omega

theorem FnSixelRepeat : laws_FnSixelRepeat.Pure := by
  intro n c hn hc
  obtain ⟨h0, h1⟩ := rep_wf_i64 hn
  obtain ⟨h2, h3⟩ := rep_wf_u8 hc
  refine ⟨1000, ?_⟩
  unfold laws_FnSixelRepeat.f
  by_cases hb : c ≥ 128
  · rw [if_pos hb]
    unfold impl_WriteRepeat.f
    rw [if_pos ⟨by unfold In; omega, by omega⟩]
    simp only [Option.bind_some]
    congr 1
    have e : digs 2 = txt [50] := by
      unfold digs txt
      rw [show Lib.itoa 2 = [50] by decide +kernel]
    have e2 : Utf8.encode 97 = txt [97] := by
      apply ByteArray.ext
      apply Array.toList_inj.1
      decide +kernel
    rw [e, e2]
    decide +kernel
  · rw [if_neg hb, number n h0 h1]
    obtain ⟨e1, e2⟩ := enc_one c h2 (by omega)
    have hs := digs_size n h0 h1
    simp only [Option.bind_some, e2]
    rw [if_pos (by omega), if_pos (by omega)]
    unfold impl_WriteRepeat.f impl_RepeatText.f
    rw [if_pos ⟨⟨h0, h1⟩, h2, h3⟩, e1]
    simp only [Option.bind_some]
    have e3 : ((txt [33] ++ digs n) ++ strOfNums [c]) = (((⟨#[33]⟩ : ByteArray) ++ digs n) ++ strOfNums [c]) := rfl
    rw [if_pos (by rw [e3])]
    congr 1
    rw [e3]
    simp

end Go.Proofs.YtjicpadeplminaaDoor.Pure
