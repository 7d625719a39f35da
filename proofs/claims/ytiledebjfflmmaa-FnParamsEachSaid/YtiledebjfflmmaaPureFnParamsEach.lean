/- The plain part of FnParamsEach: what ForEach hands over is each index, its value or the default, and whether more follow. No memory. -/
import Derived.Test.YtiledebjfflmmaaPEx1
namespace Go.Proofs.Ytiledebjfflmmaa.Pure
open Go Go.RowKit Go.Proofs.Ytiledebjfflmmaa.PE Go.Proofs.YtiledebjfflmmaaW.PrintWords Go.Proofs.YtiledebjfflmmaaW.PrintLast Go.Proofs.Ytiledebjfflmmaa.Ea
set_option linter.unusedVariables false
set_option linter.unusedSimpArgs false

theorem wq {x : Int} (h0 : -9223372036854775808 ≤ x) (h1 : x ≤ 9223372036854775807) : wrap64 x = x := by unfold wrap64; omega
theorem awake : laws_packAwake.f = some true := by
  unfold laws_packAwake.f impl_Pack.f xansi_Command.f
  decide +kernel
theorem spec_or (p d : Int) : spec_Or.f p d = some (pv p d) := by
  unfold spec_Or.f spec_Value.f pv
  simp only [Option.bind_some]
  split <;> rfl
theorem spec_more (p : Int) : spec_More.f p = some (hm p) := rfl
theorem ents_at (d : Int) (l : List Int) (n j : Nat) (h : j < n) : rd_T27 (ents d l n) (j : Int) = ⟨(j : Int), pv (rd l (j : Int)) d, hm (rd l (j : Int))⟩ := by
  unfold rd_T27 ents
  rw [Int.toNat_natCast, List.getD_eq_getElem?_getD, List.getElem?_map, List.getElem?_range h]
  rfl

theorem loop (l : List Int) (d : Int) (hl : l.length ≤ 100) : ∀ (m j : Nat), j + m = l.length → ∀ k, m < k → laws_FnParamsEach.l0 k l d (ents d l l.length) (l.length : Int) (j : Int) = some true
  | 0, j, hj, k + 1, _ => by
    simp only [laws_FnParamsEach.l0]
    rw [if_neg (by omega)]
  | m + 1, j, hj, k + 1, hk => by
    have h := loop l d hl m (j + 1) (by omega) k (by omega)
    have e := ents_at d l l.length j (by omega)
    simp only [laws_FnParamsEach.l0]
    rw [e, if_pos (by omega), if_pos (by omega), if_pos (by rw [ents_len]; omega), if_pos rfl, if_pos (by omega), spec_or, Option.bind_some, if_pos rfl, spec_more, Option.bind_some, if_neg (by simp), wq (by omega) (by omega)]
    exact h
theorem FnParamsEach : laws_FnParamsEach.Pure := by
  intro l d h1 h2 h3 h4
  refine ⟨l.length + 1, ?_⟩
  unfold laws_FnParamsEach.f
  by_cases hb : (l.length : Int) > 2147483647
  · rw [if_pos hb]
  rw [if_neg hb]
  by_cases hc : (l.length : Int) > 100
  · rw [if_pos hc]
  have e : impl_EachOf.f (([] : List Int) ++ l) d = some (ents d l l.length) := by
    unfold impl_EachOf.f
    rw [List.nil_append, if_pos (by omega)]
  rw [if_neg hc, if_pos (by show 0 + l.length < _; omega), e, Option.bind_some, ents_len, if_pos rfl, awake, Option.bind_some, if_pos rfl]
  exact loop l d (by omega) l.length 0 (by omega) _ (by omega)

end Go.Proofs.Ytiledebjfflmmaa.Pure
