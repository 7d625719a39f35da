-- Written by wip/pp.py, a program of this session, out of the translation. Not trusted: Lean checks it.
import Derived.Test.YtplmmblofhhikaaDoorPGx0
import Derived.Test.YtplmmblofhhikaaDoorPGx2
namespace Go.Proofs.YtplmmblofhhikaaDoor.PG
open Go.RowKit Go.Proofs.YtplmmblofhhikaaDoor.Or Go.Proofs.YtplmmblofhhikaaDoorW.PrintWords Go.Proofs.YtplmmblofhhikaaDoorW.PrintLast Go.Proofs.YtplmmblofhhikaaDoorW.PrintMore
attribute [local go_sem] max2_int min2_int max_two min_two max_three min_three max_four min_four   -- for this text's walks alone
attribute [local go_sem] Go.Proofs.YtplmmblofhhikaaDoor.Ext.wrap64_mod256 Go.Proofs.YtplmmblofhhikaaDoor.Ext.wrap64_mod32 Go.Proofs.YtplmmblofhhikaaDoor.Ext.i64_mod256 Go.Proofs.YtplmmblofhhikaaDoor.Ext.i64_mod32 Go.Proofs.YtplmmblofhhikaaDoor.Ext.i64_u8 Go.Proofs.YtplmmblofhhikaaDoor.Ext.w64_u8 Go.Proofs.YtplmmblofhhikaaDoor.Ext.i64_u32 Go.Proofs.YtplmmblofhhikaaDoor.Ext.w64_u32 
set_option linter.unusedVariables false
set_option linter.unusedSimpArgs false

/-! ### spec_MadeSixel: function 32 -/
def spec_MadeSixel.f (k : Nat) (a0 : Int) (a1 : Int) (a2 : Int) (l3 : List Int) : Option (ByteArray) := (spec_madeAbove.f k a0 (-1)).bind fun t151 => (if 2 + t151.size ≤ 9223372036854775807 then (if 2 + t151.size + 1 ≤ 9223372036854775807 then ((spec_madeAbove.f k a1 (-1)).bind fun t152 => (if 2 + t151.size + 1 + t152.size ≤ 9223372036854775807 then (if a2 > 0 then ((spec_Digits.f k a2).bind fun t153 => (if 1 + t153.size ≤ 9223372036854775807 then (if 2 + t151.size + 1 + t152.size + (1 + t153.size) ≤ 9223372036854775807 then (if 2 + t151.size + 1 + t152.size + (1 + t153.size) + 1 ≤ 9223372036854775807 then (if 2 + t151.size + 1 + t152.size + (1 + t153.size) + 1 + (strOfNums l3).size ≤ 9223372036854775807 then (if 2 + t151.size + 1 + t152.size + (1 + t153.size) + 1 + (strOfNums l3).size + 2 ≤ 9223372036854775807 then (some ((((((((⟨#[27, 80]⟩ : ByteArray) ++ t151) ++ (⟨#[59]⟩ : ByteArray)) ++ t152) ++ ((⟨#[59]⟩ : ByteArray) ++ t153)) ++ (⟨#[113]⟩ : ByteArray)) ++ (strOfNums l3)) ++ (⟨#[27, 92]⟩ : ByteArray))) else (none)) else (none)) else (none)) else (none)) else (none))) else (if 2 + t151.size + 1 + t152.size + 1 ≤ 9223372036854775807 then (if 2 + t151.size + 1 + t152.size + 1 + (strOfNums l3).size ≤ 9223372036854775807 then (if 2 + t151.size + 1 + t152.size + 1 + (strOfNums l3).size + 2 ≤ 9223372036854775807 then (some (((((((⟨#[27, 80]⟩ : ByteArray) ++ t151) ++ (⟨#[59]⟩ : ByteArray)) ++ t152) ++ (⟨#[113]⟩ : ByteArray)) ++ (strOfNums l3)) ++ (⟨#[27, 92]⟩ : ByteArray))) else (none)) else (none)) else (none))) else (none))) else (none)) else (none))
theorem spec_MadeSixel.mono : ∀ a0 a1 a2 a3 k, LeO (spec_MadeSixel.f k a0 a1 a2 a3) (spec_MadeSixel.f (k + 1) a0 a1 a2 a3) := by
  intro a0 a1 a2 a3 k
  unfold spec_MadeSixel.f
  repeat' first
      | (with_reducible exact spec_Digits.mono _ _)
      | (with_reducible exact spec_madeAbove.mono _ _ _)
      | (with_reducible exact LeO.refl _)
      | (with_reducible exact LeO.none _)
      | (with_reducible refine LeO.ite ?_ ?_)
      | (with_reducible refine LeO.bind ?_ (fun _ => ?_))
      | exact spec_Digits.mono _ _
      | exact spec_madeAbove.mono _ _ _
      | exact LeO.none _
      | refine LeO.ite ?_ ?_
      | refine LeO.bind ?_ (fun _ => ?_)
set_option maxHeartbeats 8000000 in
set_option maxRecDepth 100000 in
theorem spec_MadeSixel.calls (k : Nat) (a0 : Int) (a1 : Int) (a2 : Int) (A3 : Option Addr) (c3 : Nat) (l3 : List Int) (r : ByteArray) (w : World) (hr3 : Kd.C (Kd.int .u8) w A3 l3.length l3) (hc3 : l3.length ≤ c3) (h : spec_MadeSixel.f k a0 a1 a2 l3 = some r) :
    Calls Tryd.prog 32 #[.int .i64 a0, .int .i64 a1, .int .i64 a2, .slice A3 l3.length c3] w fun e w' => e = .returned (.string r) ∧ Below w.heap.size w w' := by
  have HR3 := Aside0.mk hr3
  have HC3 := Aside0.mk hc3
  clear hr3 hc3
  have HB := Aside0.mk (Below.refl w.heap.size w)
  have H : ((spec_madeAbove.f k a0 (-1)).bind fun t151 => (if 2 + t151.size ≤ 9223372036854775807 then (if 2 + t151.size + 1 ≤ 9223372036854775807 then ((spec_madeAbove.f k a1 (-1)).bind fun t152 => (if 2 + t151.size + 1 + t152.size ≤ 9223372036854775807 then (if a2 > 0 then ((spec_Digits.f k a2).bind fun t153 => (if 1 + t153.size ≤ 9223372036854775807 then (if 2 + t151.size + 1 + t152.size + (1 + t153.size) ≤ 9223372036854775807 then (if 2 + t151.size + 1 + t152.size + (1 + t153.size) + 1 ≤ 9223372036854775807 then (if 2 + t151.size + 1 + t152.size + (1 + t153.size) + 1 + (strOfNums l3).size ≤ 9223372036854775807 then (if 2 + t151.size + 1 + t152.size + (1 + t153.size) + 1 + (strOfNums l3).size + 2 ≤ 9223372036854775807 then (some ((((((((⟨#[27, 80]⟩ : ByteArray) ++ t151) ++ (⟨#[59]⟩ : ByteArray)) ++ t152) ++ ((⟨#[59]⟩ : ByteArray) ++ t153)) ++ (⟨#[113]⟩ : ByteArray)) ++ (strOfNums l3)) ++ (⟨#[27, 92]⟩ : ByteArray))) else (none)) else (none)) else (none)) else (none)) else (none))) else (if 2 + t151.size + 1 + t152.size + 1 ≤ 9223372036854775807 then (if 2 + t151.size + 1 + t152.size + 1 + (strOfNums l3).size ≤ 9223372036854775807 then (if 2 + t151.size + 1 + t152.size + 1 + (strOfNums l3).size + 2 ≤ 9223372036854775807 then (some (((((((⟨#[27, 80]⟩ : ByteArray) ++ t151) ++ (⟨#[59]⟩ : ByteArray)) ++ t152) ++ (⟨#[113]⟩ : ByteArray)) ++ (strOfNums l3)) ++ (⟨#[27, 92]⟩ : ByteArray))) else (none)) else (none)) else (none))) else (none))) else (none)) else (none))) = some r := h
  clear h
  replace H := Option.bind_eq_some_iff.mp H
  obtain ⟨t151, A50, H⟩ := H
  replace H : (if 2 + t151.size ≤ 9223372036854775807 then (if 2 + t151.size + 1 ≤ 9223372036854775807 then ((spec_madeAbove.f k a1 (-1)).bind fun t152 => (if 2 + t151.size + 1 + t152.size ≤ 9223372036854775807 then (if a2 > 0 then ((spec_Digits.f k a2).bind fun t153 => (if 1 + t153.size ≤ 9223372036854775807 then (if 2 + t151.size + 1 + t152.size + (1 + t153.size) ≤ 9223372036854775807 then (if 2 + t151.size + 1 + t152.size + (1 + t153.size) + 1 ≤ 9223372036854775807 then (if 2 + t151.size + 1 + t152.size + (1 + t153.size) + 1 + (strOfNums l3).size ≤ 9223372036854775807 then (if 2 + t151.size + 1 + t152.size + (1 + t153.size) + 1 + (strOfNums l3).size + 2 ≤ 9223372036854775807 then (some ((((((((⟨#[27, 80]⟩ : ByteArray) ++ t151) ++ (⟨#[59]⟩ : ByteArray)) ++ t152) ++ ((⟨#[59]⟩ : ByteArray) ++ t153)) ++ (⟨#[113]⟩ : ByteArray)) ++ (strOfNums l3)) ++ (⟨#[27, 92]⟩ : ByteArray))) else (none)) else (none)) else (none)) else (none)) else (none))) else (if 2 + t151.size + 1 + t152.size + 1 ≤ 9223372036854775807 then (if 2 + t151.size + 1 + t152.size + 1 + (strOfNums l3).size ≤ 9223372036854775807 then (if 2 + t151.size + 1 + t152.size + 1 + (strOfNums l3).size + 2 ≤ 9223372036854775807 then (some (((((((⟨#[27, 80]⟩ : ByteArray) ++ t151) ++ (⟨#[59]⟩ : ByteArray)) ++ t152) ++ (⟨#[113]⟩ : ByteArray)) ++ (strOfNums l3)) ++ (⟨#[27, 92]⟩ : ByteArray))) else (none)) else (none)) else (none))) else (none))) else (none)) else (none)) = some r := H
  have A5 := Aside0.mk A50
  clear A50
  by_cases c6 : 2 + t151.size ≤ 9223372036854775807
  · rw [if_pos c6] at H
    have c6b0 := eq_true c6
    have c6b1 : decide (2 + t151.size ≤ 9223372036854775807) = true := decide_eq_true c6
    try have c6b2 : (9223372036854775807 < 2 + t151.size) = False := eq_false (Nat.not_lt.2 c6)
    by_cases c7 : 2 + t151.size + 1 ≤ 9223372036854775807
    · rw [if_pos c7] at H
      have c7b0 := eq_true c7
      have c7b1 : decide (2 + t151.size + 1 ≤ 9223372036854775807) = true := decide_eq_true c7
      try have c7b2 : (9223372036854775807 < 2 + t151.size + 1) = False := eq_false (Nat.not_lt.2 c7)
      replace H := Option.bind_eq_some_iff.mp H
      obtain ⟨t152, A80, H⟩ := H
      replace H : (if 2 + t151.size + 1 + t152.size ≤ 9223372036854775807 then (if a2 > 0 then ((spec_Digits.f k a2).bind fun t153 => (if 1 + t153.size ≤ 9223372036854775807 then (if 2 + t151.size + 1 + t152.size + (1 + t153.size) ≤ 9223372036854775807 then (if 2 + t151.size + 1 + t152.size + (1 + t153.size) + 1 ≤ 9223372036854775807 then (if 2 + t151.size + 1 + t152.size + (1 + t153.size) + 1 + (strOfNums l3).size ≤ 9223372036854775807 then (if 2 + t151.size + 1 + t152.size + (1 + t153.size) + 1 + (strOfNums l3).size + 2 ≤ 9223372036854775807 then (some ((((((((⟨#[27, 80]⟩ : ByteArray) ++ t151) ++ (⟨#[59]⟩ : ByteArray)) ++ t152) ++ ((⟨#[59]⟩ : ByteArray) ++ t153)) ++ (⟨#[113]⟩ : ByteArray)) ++ (strOfNums l3)) ++ (⟨#[27, 92]⟩ : ByteArray))) else (none)) else (none)) else (none)) else (none)) else (none))) else (if 2 + t151.size + 1 + t152.size + 1 ≤ 9223372036854775807 then (if 2 + t151.size + 1 + t152.size + 1 + (strOfNums l3).size ≤ 9223372036854775807 then (if 2 + t151.size + 1 + t152.size + 1 + (strOfNums l3).size + 2 ≤ 9223372036854775807 then (some (((((((⟨#[27, 80]⟩ : ByteArray) ++ t151) ++ (⟨#[59]⟩ : ByteArray)) ++ t152) ++ (⟨#[113]⟩ : ByteArray)) ++ (strOfNums l3)) ++ (⟨#[27, 92]⟩ : ByteArray))) else (none)) else (none)) else (none))) else (none)) = some r := H
      have A8 := Aside0.mk A80
      clear A80
      by_cases c9 : 2 + t151.size + 1 + t152.size ≤ 9223372036854775807
      · rw [if_pos c9] at H
        have c9b0 := eq_true c9
        have c9b1 : decide (2 + t151.size + 1 + t152.size ≤ 9223372036854775807) = true := decide_eq_true c9
        try have c9b2 : (9223372036854775807 < 2 + t151.size + 1 + t152.size) = False := eq_false (Nat.not_lt.2 c9)
        by_cases c10 : a2 > 0
        · rw [if_pos c10] at H
          have c10b0 : decide (0 < a2) = true := decide_eq_true c10
          clear c10
          replace H := Option.bind_eq_some_iff.mp H
          obtain ⟨t153, A110, H⟩ := H
          replace H : (if 1 + t153.size ≤ 9223372036854775807 then (if 2 + t151.size + 1 + t152.size + (1 + t153.size) ≤ 9223372036854775807 then (if 2 + t151.size + 1 + t152.size + (1 + t153.size) + 1 ≤ 9223372036854775807 then (if 2 + t151.size + 1 + t152.size + (1 + t153.size) + 1 + (strOfNums l3).size ≤ 9223372036854775807 then (if 2 + t151.size + 1 + t152.size + (1 + t153.size) + 1 + (strOfNums l3).size + 2 ≤ 9223372036854775807 then (some ((((((((⟨#[27, 80]⟩ : ByteArray) ++ t151) ++ (⟨#[59]⟩ : ByteArray)) ++ t152) ++ ((⟨#[59]⟩ : ByteArray) ++ t153)) ++ (⟨#[113]⟩ : ByteArray)) ++ (strOfNums l3)) ++ (⟨#[27, 92]⟩ : ByteArray))) else (none)) else (none)) else (none)) else (none)) else (none)) = some r := H
          have A11 := Aside0.mk A110
          clear A110
          by_cases c12 : 1 + t153.size ≤ 9223372036854775807
          · rw [if_pos c12] at H
            have c12b0 := eq_true c12
            have c12b1 : decide (1 + t153.size ≤ 9223372036854775807) = true := decide_eq_true c12
            try have c12b2 : (9223372036854775807 < 1 + t153.size) = False := eq_false (Nat.not_lt.2 c12)
            by_cases c13 : 2 + t151.size + 1 + t152.size + (1 + t153.size) ≤ 9223372036854775807
            · rw [if_pos c13] at H
              have c13b0 := eq_true c13
              have c13b1 : decide (2 + t151.size + 1 + t152.size + (1 + t153.size) ≤ 9223372036854775807) = true := decide_eq_true c13
              try have c13b2 : (9223372036854775807 < 2 + t151.size + 1 + t152.size + (1 + t153.size)) = False := eq_false (Nat.not_lt.2 c13)
              by_cases c14 : 2 + t151.size + 1 + t152.size + (1 + t153.size) + 1 ≤ 9223372036854775807
              · rw [if_pos c14] at H
                have c14b0 := eq_true c14
                have c14b1 : decide (2 + t151.size + 1 + t152.size + (1 + t153.size) + 1 ≤ 9223372036854775807) = true := decide_eq_true c14
                try have c14b2 : (9223372036854775807 < 2 + t151.size + 1 + t152.size + (1 + t153.size) + 1) = False := eq_false (Nat.not_lt.2 c14)
                by_cases c15 : 2 + t151.size + 1 + t152.size + (1 + t153.size) + 1 + (strOfNums l3).size ≤ 9223372036854775807
                · rw [if_pos c15] at H
                  have c15b0 := eq_true c15
                  have c15b1 : decide (2 + t151.size + 1 + t152.size + (1 + t153.size) + 1 + (strOfNums l3).size ≤ 9223372036854775807) = true := decide_eq_true c15
                  try have c15b2 : (9223372036854775807 < 2 + t151.size + 1 + t152.size + (1 + t153.size) + 1 + (strOfNums l3).size) = False := eq_false (Nat.not_lt.2 c15)
                  by_cases c16 : 2 + t151.size + 1 + t152.size + (1 + t153.size) + 1 + (strOfNums l3).size + 2 ≤ 9223372036854775807
                  · rw [if_pos c16] at H
                    have c16b0 := eq_true c16
                    have c16b1 : decide (2 + t151.size + 1 + t152.size + (1 + t153.size) + 1 + (strOfNums l3).size + 2 ≤ 9223372036854775807) = true := decide_eq_true c16
                    try have c16b2 : (9223372036854775807 < 2 + t151.size + 1 + t152.size + (1 + t153.size) + 1 + (strOfNums l3).size + 2) = False := eq_false (Nat.not_lt.2 c16)
                    obtain rfl := Option.some.inj H
                    go_enter Tryd.func32, Tryd.ntmps32
                    go_wp2_with (first | ((with_reducible refine gate_callee (f := 72) rfl ?_); refine goesL_ (some 11) rfl rfl Tryd.func72 (by kernel_rfl) rfl #[.int .i64 a0, .int .i64 (-1)] rfl (by (try simp only [List.map_toArray, List.map_cons, List.map_nil]); first | done | rfl | (simp only [List.length_drop, List.length_take]; rfl) | (simp [Act.eval, *]; done) | (simp [Act.eval, *]; unfold wrap64; omega)) ?_; (with_reducible refine (spec_madeAbove.calls k a0 (-1) t151 _ A5.out).mono ?_); rintro e w17 ⟨rfl, hb⟩; refine ⟨_, rfl, ?_⟩; have n0_ := Aside0.mk (below_step (by repeat (first | (with_reducible first | exact HB.out | apply below_alloc | apply Go.Proofs.YtplmmblofhhikaaDoor.Ext.below_bytes | apply pw_below_drewN | apply below_drew1) | exact HB.out)) hb); clear HB; have HB := n0_; clear n0_; (try clear hb); (try clear hb2); (try clear hk); (try clear hi)) | ((with_reducible refine gate_callee (f := 72) rfl ?_); refine goesL_ (some 15) rfl rfl Tryd.func72 (by kernel_rfl) rfl #[.int .i64 a1, .int .i64 (-1)] rfl (by (try simp only [List.map_toArray, List.map_cons, List.map_nil]); first | done | rfl | (simp only [List.length_drop, List.length_take]; rfl) | (simp [Act.eval, *]; done) | (simp [Act.eval, *]; unfold wrap64; omega)) ?_; (with_reducible refine (spec_madeAbove.calls k a1 (-1) t152 _ A8.out).mono ?_); rintro e w18 ⟨rfl, hb⟩; refine ⟨_, rfl, ?_⟩; have n0_ := Aside0.mk (below_step (by repeat (first | (with_reducible first | exact HB.out | apply below_alloc | apply Go.Proofs.YtplmmblofhhikaaDoor.Ext.below_bytes | apply pw_below_drewN | apply below_drew1) | exact HB.out)) hb); clear HB; have HB := n0_; clear n0_; (try clear hb); (try clear hb2); (try clear hk); (try clear hi)) | ((with_reducible refine gate_callee (f := 71) rfl ?_); refine goesL_ (some 21) rfl rfl Tryd.func71 (by kernel_rfl) rfl #[.int .i64 a2] rfl (by (try simp only [List.map_toArray, List.map_cons, List.map_nil]); first | done | rfl | (simp only [List.length_drop, List.length_take]; rfl) | (simp [Act.eval, *]; done) | (simp [Act.eval, *]; unfold wrap64; omega)) ?_; (with_reducible refine (spec_Digits.calls k a2 t153 _ A11.out).mono ?_); rintro e w19 ⟨rfl, hb⟩; refine ⟨_, rfl, ?_⟩; have n0_ := Aside0.mk (below_step (by repeat (first | (with_reducible first | exact HB.out | apply below_alloc | apply Go.Proofs.YtplmmblofhhikaaDoor.Ext.below_bytes | apply pw_below_drewN | apply below_drew1) | exact HB.out)) hb); clear HB; have HB := n0_; clear n0_; (try clear hb); (try clear hb2); (try clear hk); (try clear hi); have hcv20 := Kd.C_string (P := Tryd.prog) (A := A3) (c := c3) Tryd.underlying30 Tryd.underlying5 Tryd.underlying9 (Kd.C_below HR3.out HB.out); have hcw20 := fun m_ : Nat => Kd.C_string (P := Tryd.prog) (A := A3) (c := c3) Tryd.underlying30 Tryd.underlying5 Tryd.underlying9 (Kd.C_drewN (Kd.C_below HR3.out HB.out) m_)))
                    go_ret
                    exact ⟨by first | rfl | (simp [errW_none, errW_some] <;> rfl) | (simp [*, errW_none, errW_some] <;> rfl), by repeat (first | (with_reducible first | exact HB.out | apply below_alloc | apply Go.Proofs.YtplmmblofhhikaaDoor.Ext.below_bytes | apply pw_below_drewN | apply below_drew1) | exact HB.out)⟩
                  · rw [if_neg c16] at H
                    exact absurd H (by simp)
                · rw [if_neg c15] at H
                  exact absurd H (by simp)
              · rw [if_neg c14] at H
                exact absurd H (by simp)
            · rw [if_neg c13] at H
              exact absurd H (by simp)
          · rw [if_neg c12] at H
            exact absurd H (by simp)
        · rw [if_neg c10] at H
          have c10b0 : decide (0 < a2) = false := decide_eq_false c10
          clear c10
          by_cases c21 : 2 + t151.size + 1 + t152.size + 1 ≤ 9223372036854775807
          · rw [if_pos c21] at H
            have c21b0 := eq_true c21
            have c21b1 : decide (2 + t151.size + 1 + t152.size + 1 ≤ 9223372036854775807) = true := decide_eq_true c21
            try have c21b2 : (9223372036854775807 < 2 + t151.size + 1 + t152.size + 1) = False := eq_false (Nat.not_lt.2 c21)
            by_cases c22 : 2 + t151.size + 1 + t152.size + 1 + (strOfNums l3).size ≤ 9223372036854775807
            · rw [if_pos c22] at H
              have c22b0 := eq_true c22
              have c22b1 : decide (2 + t151.size + 1 + t152.size + 1 + (strOfNums l3).size ≤ 9223372036854775807) = true := decide_eq_true c22
              try have c22b2 : (9223372036854775807 < 2 + t151.size + 1 + t152.size + 1 + (strOfNums l3).size) = False := eq_false (Nat.not_lt.2 c22)
              by_cases c23 : 2 + t151.size + 1 + t152.size + 1 + (strOfNums l3).size + 2 ≤ 9223372036854775807
              · rw [if_pos c23] at H
                have c23b0 := eq_true c23
                have c23b1 : decide (2 + t151.size + 1 + t152.size + 1 + (strOfNums l3).size + 2 ≤ 9223372036854775807) = true := decide_eq_true c23
                try have c23b2 : (9223372036854775807 < 2 + t151.size + 1 + t152.size + 1 + (strOfNums l3).size + 2) = False := eq_false (Nat.not_lt.2 c23)
                obtain rfl := Option.some.inj H
                go_enter Tryd.func32, Tryd.ntmps32
                go_wp2_with (first | ((with_reducible refine gate_callee (f := 72) rfl ?_); refine goesL_ (some 11) rfl rfl Tryd.func72 (by kernel_rfl) rfl #[.int .i64 a0, .int .i64 (-1)] rfl (by (try simp only [List.map_toArray, List.map_cons, List.map_nil]); first | done | rfl | (simp only [List.length_drop, List.length_take]; rfl) | (simp [Act.eval, *]; done) | (simp [Act.eval, *]; unfold wrap64; omega)) ?_; (with_reducible refine (spec_madeAbove.calls k a0 (-1) t151 _ A5.out).mono ?_); rintro e w24 ⟨rfl, hb⟩; refine ⟨_, rfl, ?_⟩; have n0_ := Aside0.mk (below_step (by repeat (first | (with_reducible first | exact HB.out | apply below_alloc | apply Go.Proofs.YtplmmblofhhikaaDoor.Ext.below_bytes | apply pw_below_drewN | apply below_drew1) | exact HB.out)) hb); clear HB; have HB := n0_; clear n0_; (try clear hb); (try clear hb2); (try clear hk); (try clear hi)) | ((with_reducible refine gate_callee (f := 72) rfl ?_); refine goesL_ (some 15) rfl rfl Tryd.func72 (by kernel_rfl) rfl #[.int .i64 a1, .int .i64 (-1)] rfl (by (try simp only [List.map_toArray, List.map_cons, List.map_nil]); first | done | rfl | (simp only [List.length_drop, List.length_take]; rfl) | (simp [Act.eval, *]; done) | (simp [Act.eval, *]; unfold wrap64; omega)) ?_; (with_reducible refine (spec_madeAbove.calls k a1 (-1) t152 _ A8.out).mono ?_); rintro e w25 ⟨rfl, hb⟩; refine ⟨_, rfl, ?_⟩; have n0_ := Aside0.mk (below_step (by repeat (first | (with_reducible first | exact HB.out | apply below_alloc | apply Go.Proofs.YtplmmblofhhikaaDoor.Ext.below_bytes | apply pw_below_drewN | apply below_drew1) | exact HB.out)) hb); clear HB; have HB := n0_; clear n0_; (try clear hb); (try clear hb2); (try clear hk); (try clear hi); have hcv26 := Kd.C_string (P := Tryd.prog) (A := A3) (c := c3) Tryd.underlying30 Tryd.underlying5 Tryd.underlying9 (Kd.C_below HR3.out HB.out); have hcw26 := fun m_ : Nat => Kd.C_string (P := Tryd.prog) (A := A3) (c := c3) Tryd.underlying30 Tryd.underlying5 Tryd.underlying9 (Kd.C_drewN (Kd.C_below HR3.out HB.out) m_)))
                go_ret
                exact ⟨by first | rfl | (simp [errW_none, errW_some] <;> rfl) | (simp [*, errW_none, errW_some] <;> rfl), by repeat (first | (with_reducible first | exact HB.out | apply below_alloc | apply Go.Proofs.YtplmmblofhhikaaDoor.Ext.below_bytes | apply pw_below_drewN | apply below_drew1) | exact HB.out)⟩
              · rw [if_neg c23] at H
                exact absurd H (by simp)
            · rw [if_neg c22] at H
              exact absurd H (by simp)
          · rw [if_neg c21] at H
            exact absurd H (by simp)
      · rw [if_neg c9] at H
        exact absurd H (by simp)
    · rw [if_neg c7] at H
      exact absurd H (by simp)
  · rw [if_neg c6] at H
    exact absurd H (by simp)

/-! ### laws_FnSixel: function 12 -/
def laws_FnSixel.f (k : Nat) (a0 : Int) (a1 : Int) (a2 : Int) (l3 : List Int) : Option (Bool) := if (l3.length : Int) > 2147483647 then (some true) else (if (l3.length : Int) > 4000 then ((laws_makeAwake.f).bind fun t154 => (some t154)) else ((laws_makeAwake.f).bind fun t155 => (if t155 = true then ((impl_Sixel.f a0 a1 a2 l3).bind fun t156 => ((spec_MadeSixel.f k a0 a1 a2 l3).bind fun t157 => (some (t156.toList == t157.toList)))) else (some false))))
theorem laws_FnSixel.mono : ∀ a0 a1 a2 a3 k, LeO (laws_FnSixel.f k a0 a1 a2 a3) (laws_FnSixel.f (k + 1) a0 a1 a2 a3) := by
  intro a0 a1 a2 a3 k
  unfold laws_FnSixel.f
  repeat' first
      | (with_reducible exact spec_MadeSixel.mono _ _ _ _ _)
      | (with_reducible exact LeO.refl _)
      | (with_reducible exact LeO.none _)
      | (with_reducible refine LeO.ite ?_ ?_)
      | (with_reducible refine LeO.bind ?_ (fun _ => ?_))
      | exact spec_MadeSixel.mono _ _ _ _ _
      | exact LeO.none _
      | refine LeO.ite ?_ ?_
      | refine LeO.bind ?_ (fun _ => ?_)
set_option maxHeartbeats 8000000 in
set_option maxRecDepth 100000 in
theorem laws_FnSixel.calls (k : Nat) (a0 : Int) (a1 : Int) (a2 : Int) (A3 : Option Addr) (c3 : Nat) (l3 : List Int) (r : Bool) (w : World) (hr3 : Kd.C (Kd.int .u8) w A3 l3.length l3) (hc3 : l3.length ≤ c3) (hLD : Laid w) (h : laws_FnSixel.f k a0 a1 a2 l3 = some r) :
    Calls Tryd.prog 12 #[.int .i64 a0, .int .i64 a1, .int .i64 a2, .slice A3 l3.length c3] w fun e w' => e = .returned (.bool r) ∧ Below w.heap.size w w' := by
  have HLD := Aside0.mk hLD
  clear hLD
  have HR3 := Aside0.mk hr3
  have HC3 := Aside0.mk hc3
  clear hr3 hc3
  have HB := Aside0.mk (Below.refl w.heap.size w)
  have H : (if (l3.length : Int) > 2147483647 then (some true) else (if (l3.length : Int) > 4000 then ((laws_makeAwake.f).bind fun t154 => (some t154)) else ((laws_makeAwake.f).bind fun t155 => (if t155 = true then ((impl_Sixel.f a0 a1 a2 l3).bind fun t156 => ((spec_MadeSixel.f k a0 a1 a2 l3).bind fun t157 => (some (t156.toList == t157.toList)))) else (some false))))) = some r := h
  clear h
  by_cases c5 : (l3.length : Int) > 2147483647
  · rw [if_pos c5] at H
    have c5b0 : decide (2147483647 < (l3.length : Int)) = true := decide_eq_true c5
    have c5b1 : decide (2147483647 < l3.length) = true := decide_eq_true (by omega)
    clear c5
    obtain rfl := Option.some.inj H
    go_enter Tryd.func12, Tryd.ntmps12
    go_wp2
    go_ret
    exact ⟨by first | rfl | (simp [errW_none, errW_some] <;> rfl) | (simp [*, errW_none, errW_some] <;> rfl), by repeat (first | (with_reducible first | exact HB.out | apply below_alloc | apply Go.Proofs.YtplmmblofhhikaaDoor.Ext.below_bytes | apply pw_below_drewN | apply below_drew1) | exact HB.out)⟩
  · rw [if_neg c5] at H
    have c5b0 : decide (2147483647 < (l3.length : Int)) = false := decide_eq_false c5
    have c5b1 : decide (2147483647 < l3.length) = false := decide_eq_false (by omega)
    clear c5
    by_cases c6 : (l3.length : Int) > 4000
    · rw [if_pos c6] at H
      have c6b0 : decide (4000 < (l3.length : Int)) = true := decide_eq_true c6
      have c6b1 : decide (4000 < l3.length) = true := decide_eq_true (by omega)
      clear c6
      replace H := Option.bind_eq_some_iff.mp H
      obtain ⟨t154, A70, H⟩ := H
      replace H : (some t154) = some r := H
      have A7 := Aside0.mk A70
      clear A70
      obtain rfl := Option.some.inj H
      go_enter Tryd.func12, Tryd.ntmps12
      go_wp2_with (first | ((with_reducible refine gate_callee (f := 15) rfl ?_); refine goesL_ (some 15) rfl rfl Tryd.func15 (by kernel_rfl) rfl #[] rfl (by (try simp only [List.map_toArray, List.map_cons, List.map_nil]); first | done | rfl | (simp only [List.length_drop, List.length_take]; rfl) | (simp [Act.eval, *]; done) | (simp [Act.eval, *]; unfold wrap64; omega)) ?_; (with_reducible refine (laws_makeAwake.calls  t154 _ ?side1 A7.out).mono ?_); (case side1 => exact HLD.out.below (by repeat (first | (with_reducible first | exact HB.out | apply below_alloc | apply Go.Proofs.YtplmmblofhhikaaDoor.Ext.below_bytes | apply pw_below_drewN | apply below_drew1) | exact HB.out))); rintro e w8 ⟨rfl, hb⟩; refine ⟨_, rfl, ?_⟩; have n0_ := Aside0.mk (below_step (by repeat (first | (with_reducible first | exact HB.out | apply below_alloc | apply Go.Proofs.YtplmmblofhhikaaDoor.Ext.below_bytes | apply pw_below_drewN | apply below_drew1) | exact HB.out)) hb); clear HB; have HB := n0_; clear n0_; (try clear hb); (try clear hb2); (try clear hk); (try clear hi)))
      go_ret
      exact ⟨by first | rfl | (simp [errW_none, errW_some] <;> rfl) | (simp [*, errW_none, errW_some] <;> rfl), by repeat (first | (with_reducible first | exact HB.out | apply below_alloc | apply Go.Proofs.YtplmmblofhhikaaDoor.Ext.below_bytes | apply pw_below_drewN | apply below_drew1) | exact HB.out)⟩
    · rw [if_neg c6] at H
      have c6b0 : decide (4000 < (l3.length : Int)) = false := decide_eq_false c6
      have c6b1 : decide (4000 < l3.length) = false := decide_eq_false (by omega)
      clear c6
      replace H := Option.bind_eq_some_iff.mp H
      obtain ⟨t155, A90, H⟩ := H
      replace H : (if t155 = true then ((impl_Sixel.f a0 a1 a2 l3).bind fun t156 => ((spec_MadeSixel.f k a0 a1 a2 l3).bind fun t157 => (some (t156.toList == t157.toList)))) else (some false)) = some r := H
      have A9 := Aside0.mk A90
      clear A90
      by_cases c10 : t155 = true
      · subst c10
        have H1 : ((impl_Sixel.f a0 a1 a2 l3).bind fun t156 => ((spec_MadeSixel.f k a0 a1 a2 l3).bind fun t157 => (some (t156.toList == t157.toList)))) = some r := by rw [if_pos rfl] at H; exact H
        clear H
        have H := H1
        clear H1
        replace H := Option.bind_eq_some_iff.mp H
        obtain ⟨t156, A110, H⟩ := H
        replace H : ((spec_MadeSixel.f k a0 a1 a2 l3).bind fun t157 => (some (t156.toList == t157.toList))) = some r := H
        have A11 := Aside0.mk A110
        clear A110
        replace H := Option.bind_eq_some_iff.mp H
        obtain ⟨t157, A120, H⟩ := H
        replace H : (some (t156.toList == t157.toList)) = some r := H
        have A12 := Aside0.mk A120
        clear A120
        obtain rfl := Option.some.inj H
        go_enter Tryd.func12, Tryd.ntmps12
        go_wp2_with (first | ((with_reducible refine gate_callee (f := 15) rfl ?_); refine goesL_ (some 16) rfl rfl Tryd.func15 (by kernel_rfl) rfl #[] rfl (by (try simp only [List.map_toArray, List.map_cons, List.map_nil]); first | done | rfl | (simp only [List.length_drop, List.length_take]; rfl) | (simp [Act.eval, *]; done) | (simp [Act.eval, *]; unfold wrap64; omega)) ?_; (with_reducible refine (laws_makeAwake.calls  true _ ?side1 A9.out).mono ?_); (case side1 => exact HLD.out.below (by repeat (first | (with_reducible first | exact HB.out | apply below_alloc | apply Go.Proofs.YtplmmblofhhikaaDoor.Ext.below_bytes | apply pw_below_drewN | apply below_drew1) | exact HB.out))); rintro e w13 ⟨rfl, hb⟩; refine ⟨_, rfl, ?_⟩; have n0_ := Aside0.mk (below_step (by repeat (first | (with_reducible first | exact HB.out | apply below_alloc | apply Go.Proofs.YtplmmblofhhikaaDoor.Ext.below_bytes | apply pw_below_drewN | apply below_drew1) | exact HB.out)) hb); clear HB; have HB := n0_; clear n0_; (try clear hb); (try clear hb2); (try clear hk); (try clear hi)) | (go_at_call 31; (with_reducible refine (impl_Sixel.calls a0 a1 a2 _ _ l3 t156 _ ?side1 ?side2 ?side3 A11.out).mono ?_); (case side1 => repeat (first | exact (Kd.C_below HR3.out HB.out) | (with_reducible refine Kd.C_alloc ?_ _) | (with_reducible refine Kd.C_drewN ?_ _) | (with_reducible refine Kd.C_drew ?_))); (case side2 => exact HC3.out); (case side3 => exact HLD.out.below (by repeat (first | (with_reducible first | exact HB.out | apply below_alloc | apply Go.Proofs.YtplmmblofhhikaaDoor.Ext.below_bytes | apply pw_below_drewN | apply below_drew1) | exact HB.out))); rintro e w14 ⟨rfl, hb⟩; have n0_ := Aside0.mk (below_step (by repeat (first | (with_reducible first | exact HB.out | apply below_alloc | apply Go.Proofs.YtplmmblofhhikaaDoor.Ext.below_bytes | apply pw_below_drewN | apply below_drew1) | exact HB.out)) hb); clear HB; have HB := n0_; clear n0_; (try clear hb); (try clear hb2); (try clear hk); (try clear hi)) | (go_at_call 32; (with_reducible refine (spec_MadeSixel.calls k a0 a1 a2 _ _ l3 t157 _ ?side1 ?side2 A12.out).mono ?_); (case side1 => repeat (first | exact (Kd.C_below HR3.out HB.out) | (with_reducible refine Kd.C_alloc ?_ _) | (with_reducible refine Kd.C_drewN ?_ _) | (with_reducible refine Kd.C_drew ?_))); (case side2 => exact HC3.out); rintro e w15 ⟨rfl, hb⟩; have n0_ := Aside0.mk (below_step (by repeat (first | (with_reducible first | exact HB.out | apply below_alloc | apply Go.Proofs.YtplmmblofhhikaaDoor.Ext.below_bytes | apply pw_below_drewN | apply below_drew1) | exact HB.out)) hb); clear HB; have HB := n0_; clear n0_; (try clear hb); (try clear hb2); (try clear hk); (try clear hi)))
        go_ret
        exact ⟨by first | rfl | (simp [errW_none, errW_some] <;> rfl) | (simp [*, errW_none, errW_some] <;> rfl), by repeat (first | (with_reducible first | exact HB.out | apply below_alloc | apply Go.Proofs.YtplmmblofhhikaaDoor.Ext.below_bytes | apply pw_below_drewN | apply below_drew1) | exact HB.out)⟩
      · replace c10 := Bool.eq_false_iff.mpr c10
        subst c10
        have H1 : (some false) = some r := by rw [if_neg (show ¬ (false = true) by decide)] at H; exact H
        clear H
        have H := H1
        clear H1
        obtain rfl := Option.some.inj H
        go_enter Tryd.func12, Tryd.ntmps12
        go_wp2_with (first | ((with_reducible refine gate_callee (f := 15) rfl ?_); refine goesL_ (some 16) rfl rfl Tryd.func15 (by kernel_rfl) rfl #[] rfl (by (try simp only [List.map_toArray, List.map_cons, List.map_nil]); first | done | rfl | (simp only [List.length_drop, List.length_take]; rfl) | (simp [Act.eval, *]; done) | (simp [Act.eval, *]; unfold wrap64; omega)) ?_; (with_reducible refine (laws_makeAwake.calls  false _ ?side1 A9.out).mono ?_); (case side1 => exact HLD.out.below (by repeat (first | (with_reducible first | exact HB.out | apply below_alloc | apply Go.Proofs.YtplmmblofhhikaaDoor.Ext.below_bytes | apply pw_below_drewN | apply below_drew1) | exact HB.out))); rintro e w16 ⟨rfl, hb⟩; refine ⟨_, rfl, ?_⟩; have n0_ := Aside0.mk (below_step (by repeat (first | (with_reducible first | exact HB.out | apply below_alloc | apply Go.Proofs.YtplmmblofhhikaaDoor.Ext.below_bytes | apply pw_below_drewN | apply below_drew1) | exact HB.out)) hb); clear HB; have HB := n0_; clear n0_; (try clear hb); (try clear hb2); (try clear hk); (try clear hi)))
        go_ret
        exact ⟨by first | rfl | (simp [errW_none, errW_some] <;> rfl) | (simp [*, errW_none, errW_some] <;> rfl), by repeat (first | (with_reducible first | exact HB.out | apply below_alloc | apply Go.Proofs.YtplmmblofhhikaaDoor.Ext.below_bytes | apply pw_below_drewN | apply below_drew1) | exact HB.out)⟩

/-- THE ONE PURE STATEMENT of laws_FnSixel: yours. -/
def laws_FnSixel.Pure : Prop := ∀ (a0 : Int) (a1 : Int) (a2 : Int) (l3 : List Int), (Lit.int .i64 a0).wf = true → (Lit.int .i64 a1).wf = true → (Lit.int .i64 a2).wf = true → l3.length ≤ maxLen → l3.length * 1 ≤ 140737488351232 → (∀ x ∈ l3, (Lit.int .u8 x).wf = true) → ∃ k, laws_FnSixel.f k a0 a1 a2 l3 = some true
theorem laws_FnSixel.walk (P : laws_FnSixel.Pure) (a0 : Int) (a1 : Int) (a2 : Int) (a3 : Option Addr) (len3 cap3 : Nat) (z3 : List Int) (w : World) (hLD : Laid w) (w0 : (Lit.int .i64 a0).wf = true) (w1 : (Lit.int .i64 a1).wf = true) (w2 : (Lit.int .i64 a2).wf = true) (w3 : (a3 = none ∧ len3 = 0 ∧ cap3 = 0 ∧ z3 = []) ∨ ∃ x, a3 = some x ∧ len3 ≤ cap3 ∧ cap3 ≤ maxLen ∧ z3.length = cap3 ∧ (∀ i, i < z3.length → w.cell? (x.add i) = some (.int .u8 (z3.getD i 0))) ∧ ∀ n ∈ z3, (Lit.int .u8 n).wf = true) (y3 : len3 * 1 ≤ 140737488351232) :
    Calls Tryd.prog 12 #[.int .i64 a0, .int .i64 a1, .int .i64 a2, .slice a3 len3 cap3] w fun e w' => e = .returned (.bool true) ∧ Below w.heap.size w w' := by
  obtain ⟨l3, rfl, hr3, hm3, hw3, hc3⟩ := ReadsInt.ofRowC w3
  obtain ⟨k, h⟩ := P a0 a1 a2 l3 w0 w1 w2 hm3 y3 hw3
  refine (laws_FnSixel.calls k a0 a1 a2 _ _ l3 true w (Kd.C_of_reads (d := (0 : Int)) (h1 := fun _ => rfl) hr3) hc3 hLD h).mono ?_
  rintro e w' ⟨rfl, hd⟩
  exact ⟨rfl, hd⟩

end Go.Proofs.YtplmmblofhhikaaDoor.PG
