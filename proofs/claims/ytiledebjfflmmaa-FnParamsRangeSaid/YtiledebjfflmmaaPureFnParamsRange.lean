/- The plain part of FnParamsRange: what Range hands over is each index, its value or -1, and whether more follow, as many as are asked for. No memory. -/
import Derived.Test.YtiledebjfflmmaaPEx1
namespace Go.Proofs.Ytiledebjfflmmaa.PureR
open Go Go.RowKit Go.Proofs.Ytiledebjfflmmaa.PE Go.Proofs.YtiledebjfflmmaaW.PrintWords Go.Proofs.YtiledebjfflmmaaW.PrintLast Go.Proofs.Ytiledebjfflmmaa.Ea
set_option linter.unusedVariables false
set_option linter.unusedSimpArgs false

theorem wq {x : Int} (h0 : -9223372036854775808 ≤ x) (h1 : x ≤ 9223372036854775807) : wrap64 x = x := by unfold wrap64; omega
theorem awake : laws_packAwake.f = some true := by
  unfold laws_packAwake.f impl_Pack.f xansi_Command.f
  decide +kernel
theorem spec_or (p d : Int) : spec_Or.f p d = some (pv p d) := by
  unfold spec_Or.f spec_Value.f pv
  simp only [Option.bind_some]
  split <;> rfl
theorem spec_more (p : Int) : spec_More.f p = some (hm p) := rfl
theorem plainAt (l : List Int) (j : Nat) (h : j < l.length) : spec_PlainAt.f l (j : Int) = some (pv (rd l (j : Int)) (-1)) := by
  unfold spec_PlainAt.f
  rw [if_neg (by omega), if_neg (by omega), if_pos (by omega), if_pos (by omega), spec_or]
  rfl
theorem ents_at (d : Int) (l : List Int) (n j : Nat) (h : j < n) : rd_T27 (ents d l n) (j : Int) = ⟨(j : Int), pv (rd l (j : Int)) d, hm (rd l (j : Int))⟩ := by
  unfold rd_T27 ents
  rw [Int.toNat_natCast, List.getD_eq_getElem?_getD, List.getElem?_map, List.getElem?_range h]
  rfl

theorem loop (l : List Int) (n : Nat) (hn : n ≤ l.length) (hl : l.length ≤ 100) : ∀ (m j : Nat), j + m = n → ∀ k, m < k → laws_FnParamsRange.l0 k l (ents (-1) l n) (n : Int) (j : Int) = some true
  | 0, j, hj, k + 1, _ => by
    simp only [laws_FnParamsRange.l0]
    rw [if_neg (by omega)]
  | m + 1, j, hj, k + 1, hk => by
    have h := loop l n hn hl m (j + 1) (by omega) k (by omega)
    have e := ents_at (-1) l n j (by omega)
    simp only [laws_FnParamsRange.l0]
    rw [e, if_pos (by omega), if_pos (by omega), if_pos (by rw [ents_len]; omega), if_pos rfl, plainAt l j (by omega), Option.bind_some, if_pos rfl, if_pos (by omega), spec_more, Option.bind_some, if_neg (by simp), wq (by omega) (by omega)]
    exact h
theorem j0_yes (k : Nat) (l : List Int) (a : Int) : laws_FnParamsRange.j0 (k + 1) l a true = some true := by
  simp only [laws_FnParamsRange.j0]
  rw [if_pos trivial]
theorem FnParamsRange : laws_FnParamsRange.Pure := by
  intro l a h1 h2 h3 h4
  refine ⟨l.length + 2, ?_⟩
  unfold laws_FnParamsRange.f
  by_cases hb : (l.length : Int) > 2147483647
  · rw [if_pos hb]
  rw [if_neg hb]
  by_cases hc : (l.length : Int) > 100
  · rw [if_pos hc, j0_yes]
  rw [if_neg hc]
  by_cases h0 : a < 1
  · rw [if_pos h0, j0_yes]
  rw [if_neg h0]
  by_cases h9 : a > 200
  · rw [decide_eq_true h9, j0_yes]
  rw [decide_eq_false h9]
  have e : impl_RangeOf.f (([] : List Int) ++ l) a = some (ents (-1) l (min a.toNat l.length)) := by
    unfold impl_RangeOf.f
    rw [List.nil_append, if_pos (by constructor <;> omega)]
  have em : ((min a.toNat l.length : Nat) : Int) = mn a (l.length : Int) := by
    unfold mn
    (try split) <;> omega
  simp only [laws_FnParamsRange.j0]
  rw [if_neg (by simp), if_pos (by show 0 + l.length < _; omega), e, Option.bind_some, ents_len, if_pos em, awake, Option.bind_some, if_pos rfl]
  exact loop l (min a.toNat l.length) (by omega) (by omega) (min a.toNat l.length) 0 (by omega) _ (by omega)

end Go.Proofs.Ytiledebjfflmmaa.PureR
