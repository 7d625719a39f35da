-- Written by wip/pp.py, a program of this session, out of the translation. Not trusted: Lean checks it.
import Derived.Test.YtplmmblofhhikaaDoorPUx0
namespace Go.Proofs.YtplmmblofhhikaaDoor.PU
open Go.RowKit Go.Proofs.YtplmmblofhhikaaDoor.Or Go.Proofs.YtplmmblofhhikaaDoorW.PrintWords Go.Proofs.YtplmmblofhhikaaDoorW.PrintLast Go.Proofs.YtplmmblofhhikaaDoorW.PrintMore
attribute [local go_sem] max2_int min2_int max_two min_two max_three min_three max_four min_four   -- for this text's walks alone
attribute [local go_sem] Go.Proofs.YtplmmblofhhikaaDoor.Ext.wrap64_mod256 Go.Proofs.YtplmmblofhhikaaDoor.Ext.wrap64_mod32 Go.Proofs.YtplmmblofhhikaaDoor.Ext.i64_mod256 Go.Proofs.YtplmmblofhhikaaDoor.Ext.i64_mod32 Go.Proofs.YtplmmblofhhikaaDoor.Ext.i64_u8 Go.Proofs.YtplmmblofhhikaaDoor.Ext.w64_u8 Go.Proofs.YtplmmblofhhikaaDoor.Ext.i64_u32 Go.Proofs.YtplmmblofhhikaaDoor.Ext.w64_u32 
set_option linter.unusedVariables false
set_option linter.unusedSimpArgs false

/-! ### xansi_CursorUp: function 37 -/
def xansi_CursorUp.f (a0 : Int) : Option (ByteArray) := if a0 > 1 then ((strconv_Itoa.f a0).bind fun t101 => (if 2 + t101.size ≤ 9223372036854775807 then (if 2 + t101.size + 1 ≤ 9223372036854775807 then (some (((⟨#[27, 91]⟩ : ByteArray) ++ t101) ++ (⟨#[65]⟩ : ByteArray))) else (none)) else (none))) else (if 2 + 0 ≤ 9223372036854775807 then (if 2 + 0 + 1 ≤ 9223372036854775807 then (some (((⟨#[27, 91]⟩ : ByteArray) ++ (⟨#[]⟩ : ByteArray)) ++ (⟨#[65]⟩ : ByteArray))) else (none)) else (none))
set_option maxHeartbeats 8000000 in
set_option maxRecDepth 100000 in
theorem xansi_CursorUp.calls (a0 : Int) (r : ByteArray) (w : World) (hLD : Laid w) (h : xansi_CursorUp.f a0 = some r) :
    Calls Tryd.prog 37 #[.int .i64 a0] w fun e w' => e = .returned (.string r) ∧ Below w.heap.size w w' := by
  have HLD := Aside0.mk hLD
  clear hLD
  have HB := Aside0.mk (Below.refl w.heap.size w)
  have H : (if a0 > 1 then ((strconv_Itoa.f a0).bind fun t101 => (if 2 + t101.size ≤ 9223372036854775807 then (if 2 + t101.size + 1 ≤ 9223372036854775807 then (some (((⟨#[27, 91]⟩ : ByteArray) ++ t101) ++ (⟨#[65]⟩ : ByteArray))) else (none)) else (none))) else (if 2 + 0 ≤ 9223372036854775807 then (if 2 + 0 + 1 ≤ 9223372036854775807 then (some (((⟨#[27, 91]⟩ : ByteArray) ++ (⟨#[]⟩ : ByteArray)) ++ (⟨#[65]⟩ : ByteArray))) else (none)) else (none))) = some r := h
  clear h
  by_cases c2 : a0 > 1
  · rw [if_pos c2] at H
    have c2b0 : decide (1 < a0) = true := decide_eq_true c2
    clear c2
    replace H := Option.bind_eq_some_iff.mp H
    obtain ⟨t101, A30, H⟩ := H
    replace H : (if 2 + t101.size ≤ 9223372036854775807 then (if 2 + t101.size + 1 ≤ 9223372036854775807 then (some (((⟨#[27, 91]⟩ : ByteArray) ++ t101) ++ (⟨#[65]⟩ : ByteArray))) else (none)) else (none)) = some r := H
    have A3 := Aside0.mk A30
    clear A30
    by_cases c4 : 2 + t101.size ≤ 9223372036854775807
    · rw [if_pos c4] at H
      have c4b0 := eq_true c4
      have c4b1 : decide (2 + t101.size ≤ 9223372036854775807) = true := decide_eq_true c4
      try have c4b2 : (9223372036854775807 < 2 + t101.size) = False := eq_false (Nat.not_lt.2 c4)
      by_cases c5 : 2 + t101.size + 1 ≤ 9223372036854775807
      · rw [if_pos c5] at H
        have c5b0 := eq_true c5
        have c5b1 : decide (2 + t101.size + 1 ≤ 9223372036854775807) = true := decide_eq_true c5
        try have c5b2 : (9223372036854775807 < 2 + t101.size + 1) = False := eq_false (Nat.not_lt.2 c5)
        obtain rfl := Option.some.inj H
        go_enter Tryd.func37, Tryd.ntmps37
        go_wp2_with (first | ((with_reducible refine gate_callee (f := 109) rfl ?_); refine goesL_ (some 7) rfl rfl Tryd.func109 (by kernel_rfl) rfl #[.int .i64 a0] rfl (by (try simp only [List.map_toArray, List.map_cons, List.map_nil]); first | done | rfl | (simp only [List.length_drop, List.length_take]; rfl) | (simp [Act.eval, *]; done) | (simp [Act.eval, *]; unfold wrap64; omega)) ?_; (with_reducible refine (strconv_Itoa.calls a0 t101 _ ?side1 A3.out).mono ?_); (case side1 => exact HLD.out.below (by repeat (first | (with_reducible first | exact HB.out | apply below_alloc | apply Go.Proofs.YtplmmblofhhikaaDoor.Ext.below_bytes | apply pw_below_drewN | apply below_drew1) | exact HB.out))); rintro e w6 ⟨rfl, hb⟩; refine ⟨_, rfl, ?_⟩; have n0_ := Aside0.mk (below_step (by repeat (first | (with_reducible first | exact HB.out | apply below_alloc | apply Go.Proofs.YtplmmblofhhikaaDoor.Ext.below_bytes | apply pw_below_drewN | apply below_drew1) | exact HB.out)) hb); clear HB; have HB := n0_; clear n0_; (try clear hb); (try clear hb2); (try clear hk); (try clear hi)))
        go_ret
        exact ⟨by first | rfl | (simp [errW_none, errW_some] <;> rfl) | (simp [*, errW_none, errW_some] <;> rfl), by repeat (first | (with_reducible first | exact HB.out | apply below_alloc | apply Go.Proofs.YtplmmblofhhikaaDoor.Ext.below_bytes | apply pw_below_drewN | apply below_drew1) | exact HB.out)⟩
      · rw [if_neg c5] at H
        exact absurd H (by simp)
    · rw [if_neg c4] at H
      exact absurd H (by simp)
  · rw [if_neg c2] at H
    have c2b0 : decide (1 < a0) = false := decide_eq_false c2
    clear c2
    by_cases c7 : 2 + 0 ≤ 9223372036854775807
    · rw [if_pos c7] at H
      have c7b0 := eq_true c7
      have c7b1 : decide (2 + 0 ≤ 9223372036854775807) = true := decide_eq_true c7
      try have c7b2 : (9223372036854775807 < 2 + 0) = False := eq_false (Nat.not_lt.2 c7)
      by_cases c8 : 2 + 0 + 1 ≤ 9223372036854775807
      · rw [if_pos c8] at H
        have c8b0 := eq_true c8
        have c8b1 : decide (2 + 0 + 1 ≤ 9223372036854775807) = true := decide_eq_true c8
        try have c8b2 : (9223372036854775807 < 2 + 0 + 1) = False := eq_false (Nat.not_lt.2 c8)
        obtain rfl := Option.some.inj H
        go_enter Tryd.func37, Tryd.ntmps37
        go_wp2
        go_ret
        exact ⟨by first | rfl | (simp [errW_none, errW_some] <;> rfl) | (simp [*, errW_none, errW_some] <;> rfl), by repeat (first | (with_reducible first | exact HB.out | apply below_alloc | apply Go.Proofs.YtplmmblofhhikaaDoor.Ext.below_bytes | apply pw_below_drewN | apply below_drew1) | exact HB.out)⟩
      · rw [if_neg c8] at H
        exact absurd H (by simp)
    · rw [if_neg c7] at H
      exact absurd H (by simp)

/-! ### xansi_CursorDown: function 38 -/
def xansi_CursorDown.f (a0 : Int) : Option (ByteArray) := if a0 > 1 then ((strconv_Itoa.f a0).bind fun t102 => (if 2 + t102.size ≤ 9223372036854775807 then (if 2 + t102.size + 1 ≤ 9223372036854775807 then (some (((⟨#[27, 91]⟩ : ByteArray) ++ t102) ++ (⟨#[66]⟩ : ByteArray))) else (none)) else (none))) else (if 2 + 0 ≤ 9223372036854775807 then (if 2 + 0 + 1 ≤ 9223372036854775807 then (some (((⟨#[27, 91]⟩ : ByteArray) ++ (⟨#[]⟩ : ByteArray)) ++ (⟨#[66]⟩ : ByteArray))) else (none)) else (none))
set_option maxHeartbeats 8000000 in
set_option maxRecDepth 100000 in
theorem xansi_CursorDown.calls (a0 : Int) (r : ByteArray) (w : World) (hLD : Laid w) (h : xansi_CursorDown.f a0 = some r) :
    Calls Tryd.prog 38 #[.int .i64 a0] w fun e w' => e = .returned (.string r) ∧ Below w.heap.size w w' := by
  have HLD := Aside0.mk hLD
  clear hLD
  have HB := Aside0.mk (Below.refl w.heap.size w)
  have H : (if a0 > 1 then ((strconv_Itoa.f a0).bind fun t102 => (if 2 + t102.size ≤ 9223372036854775807 then (if 2 + t102.size + 1 ≤ 9223372036854775807 then (some (((⟨#[27, 91]⟩ : ByteArray) ++ t102) ++ (⟨#[66]⟩ : ByteArray))) else (none)) else (none))) else (if 2 + 0 ≤ 9223372036854775807 then (if 2 + 0 + 1 ≤ 9223372036854775807 then (some (((⟨#[27, 91]⟩ : ByteArray) ++ (⟨#[]⟩ : ByteArray)) ++ (⟨#[66]⟩ : ByteArray))) else (none)) else (none))) = some r := h
  clear h
  by_cases c2 : a0 > 1
  · rw [if_pos c2] at H
    have c2b0 : decide (1 < a0) = true := decide_eq_true c2
    clear c2
    replace H := Option.bind_eq_some_iff.mp H
    obtain ⟨t102, A30, H⟩ := H
    replace H : (if 2 + t102.size ≤ 9223372036854775807 then (if 2 + t102.size + 1 ≤ 9223372036854775807 then (some (((⟨#[27, 91]⟩ : ByteArray) ++ t102) ++ (⟨#[66]⟩ : ByteArray))) else (none)) else (none)) = some r := H
    have A3 := Aside0.mk A30
    clear A30
    by_cases c4 : 2 + t102.size ≤ 9223372036854775807
    · rw [if_pos c4] at H
      have c4b0 := eq_true c4
      have c4b1 : decide (2 + t102.size ≤ 9223372036854775807) = true := decide_eq_true c4
      try have c4b2 : (9223372036854775807 < 2 + t102.size) = False := eq_false (Nat.not_lt.2 c4)
      by_cases c5 : 2 + t102.size + 1 ≤ 9223372036854775807
      · rw [if_pos c5] at H
        have c5b0 := eq_true c5
        have c5b1 : decide (2 + t102.size + 1 ≤ 9223372036854775807) = true := decide_eq_true c5
        try have c5b2 : (9223372036854775807 < 2 + t102.size + 1) = False := eq_false (Nat.not_lt.2 c5)
        obtain rfl := Option.some.inj H
        go_enter Tryd.func38, Tryd.ntmps38
        go_wp2_with (first | ((with_reducible refine gate_callee (f := 109) rfl ?_); refine goesL_ (some 7) rfl rfl Tryd.func109 (by kernel_rfl) rfl #[.int .i64 a0] rfl (by (try simp only [List.map_toArray, List.map_cons, List.map_nil]); first | done | rfl | (simp only [List.length_drop, List.length_take]; rfl) | (simp [Act.eval, *]; done) | (simp [Act.eval, *]; unfold wrap64; omega)) ?_; (with_reducible refine (strconv_Itoa.calls a0 t102 _ ?side1 A3.out).mono ?_); (case side1 => exact HLD.out.below (by repeat (first | (with_reducible first | exact HB.out | apply below_alloc | apply Go.Proofs.YtplmmblofhhikaaDoor.Ext.below_bytes | apply pw_below_drewN | apply below_drew1) | exact HB.out))); rintro e w6 ⟨rfl, hb⟩; refine ⟨_, rfl, ?_⟩; have n0_ := Aside0.mk (below_step (by repeat (first | (with_reducible first | exact HB.out | apply below_alloc | apply Go.Proofs.YtplmmblofhhikaaDoor.Ext.below_bytes | apply pw_below_drewN | apply below_drew1) | exact HB.out)) hb); clear HB; have HB := n0_; clear n0_; (try clear hb); (try clear hb2); (try clear hk); (try clear hi)))
        go_ret
        exact ⟨by first | rfl | (simp [errW_none, errW_some] <;> rfl) | (simp [*, errW_none, errW_some] <;> rfl), by repeat (first | (with_reducible first | exact HB.out | apply below_alloc | apply Go.Proofs.YtplmmblofhhikaaDoor.Ext.below_bytes | apply pw_below_drewN | apply below_drew1) | exact HB.out)⟩
      · rw [if_neg c5] at H
        exact absurd H (by simp)
    · rw [if_neg c4] at H
      exact absurd H (by simp)
  · rw [if_neg c2] at H
    have c2b0 : decide (1 < a0) = false := decide_eq_false c2
    clear c2
    by_cases c7 : 2 + 0 ≤ 9223372036854775807
    · rw [if_pos c7] at H
      have c7b0 := eq_true c7
      have c7b1 : decide (2 + 0 ≤ 9223372036854775807) = true := decide_eq_true c7
      try have c7b2 : (9223372036854775807 < 2 + 0) = False := eq_false (Nat.not_lt.2 c7)
      by_cases c8 : 2 + 0 + 1 ≤ 9223372036854775807
      · rw [if_pos c8] at H
        have c8b0 := eq_true c8
        have c8b1 : decide (2 + 0 + 1 ≤ 9223372036854775807) = true := decide_eq_true c8
        try have c8b2 : (9223372036854775807 < 2 + 0 + 1) = False := eq_false (Nat.not_lt.2 c8)
        obtain rfl := Option.some.inj H
        go_enter Tryd.func38, Tryd.ntmps38
        go_wp2
        go_ret
        exact ⟨by first | rfl | (simp [errW_none, errW_some] <;> rfl) | (simp [*, errW_none, errW_some] <;> rfl), by repeat (first | (with_reducible first | exact HB.out | apply below_alloc | apply Go.Proofs.YtplmmblofhhikaaDoor.Ext.below_bytes | apply pw_below_drewN | apply below_drew1) | exact HB.out)⟩
      · rw [if_neg c8] at H
        exact absurd H (by simp)
    · rw [if_neg c7] at H
      exact absurd H (by simp)

/-! ### xansi_CursorForward: function 39 -/
def xansi_CursorForward.f (a0 : Int) : Option (ByteArray) := if a0 > 1 then ((strconv_Itoa.f a0).bind fun t103 => (if 2 + t103.size ≤ 9223372036854775807 then (if 2 + t103.size + 1 ≤ 9223372036854775807 then (some (((⟨#[27, 91]⟩ : ByteArray) ++ t103) ++ (⟨#[67]⟩ : ByteArray))) else (none)) else (none))) else (if 2 + 0 ≤ 9223372036854775807 then (if 2 + 0 + 1 ≤ 9223372036854775807 then (some (((⟨#[27, 91]⟩ : ByteArray) ++ (⟨#[]⟩ : ByteArray)) ++ (⟨#[67]⟩ : ByteArray))) else (none)) else (none))
set_option maxHeartbeats 8000000 in
set_option maxRecDepth 100000 in
theorem xansi_CursorForward.calls (a0 : Int) (r : ByteArray) (w : World) (hLD : Laid w) (h : xansi_CursorForward.f a0 = some r) :
    Calls Tryd.prog 39 #[.int .i64 a0] w fun e w' => e = .returned (.string r) ∧ Below w.heap.size w w' := by
  have HLD := Aside0.mk hLD
  clear hLD
  have HB := Aside0.mk (Below.refl w.heap.size w)
  have H : (if a0 > 1 then ((strconv_Itoa.f a0).bind fun t103 => (if 2 + t103.size ≤ 9223372036854775807 then (if 2 + t103.size + 1 ≤ 9223372036854775807 then (some (((⟨#[27, 91]⟩ : ByteArray) ++ t103) ++ (⟨#[67]⟩ : ByteArray))) else (none)) else (none))) else (if 2 + 0 ≤ 9223372036854775807 then (if 2 + 0 + 1 ≤ 9223372036854775807 then (some (((⟨#[27, 91]⟩ : ByteArray) ++ (⟨#[]⟩ : ByteArray)) ++ (⟨#[67]⟩ : ByteArray))) else (none)) else (none))) = some r := h
  clear h
  by_cases c2 : a0 > 1
  · rw [if_pos c2] at H
    have c2b0 : decide (1 < a0) = true := decide_eq_true c2
    clear c2
    replace H := Option.bind_eq_some_iff.mp H
    obtain ⟨t103, A30, H⟩ := H
    replace H : (if 2 + t103.size ≤ 9223372036854775807 then (if 2 + t103.size + 1 ≤ 9223372036854775807 then (some (((⟨#[27, 91]⟩ : ByteArray) ++ t103) ++ (⟨#[67]⟩ : ByteArray))) else (none)) else (none)) = some r := H
    have A3 := Aside0.mk A30
    clear A30
    by_cases c4 : 2 + t103.size ≤ 9223372036854775807
    · rw [if_pos c4] at H
      have c4b0 := eq_true c4
      have c4b1 : decide (2 + t103.size ≤ 9223372036854775807) = true := decide_eq_true c4
      try have c4b2 : (9223372036854775807 < 2 + t103.size) = False := eq_false (Nat.not_lt.2 c4)
      by_cases c5 : 2 + t103.size + 1 ≤ 9223372036854775807
      · rw [if_pos c5] at H
        have c5b0 := eq_true c5
        have c5b1 : decide (2 + t103.size + 1 ≤ 9223372036854775807) = true := decide_eq_true c5
        try have c5b2 : (9223372036854775807 < 2 + t103.size + 1) = False := eq_false (Nat.not_lt.2 c5)
        obtain rfl := Option.some.inj H
        go_enter Tryd.func39, Tryd.ntmps39
        go_wp2_with (first | ((with_reducible refine gate_callee (f := 109) rfl ?_); refine goesL_ (some 7) rfl rfl Tryd.func109 (by kernel_rfl) rfl #[.int .i64 a0] rfl (by (try simp only [List.map_toArray, List.map_cons, List.map_nil]); first | done | rfl | (simp only [List.length_drop, List.length_take]; rfl) | (simp [Act.eval, *]; done) | (simp [Act.eval, *]; unfold wrap64; omega)) ?_; (with_reducible refine (strconv_Itoa.calls a0 t103 _ ?side1 A3.out).mono ?_); (case side1 => exact HLD.out.below (by repeat (first | (with_reducible first | exact HB.out | apply below_alloc | apply Go.Proofs.YtplmmblofhhikaaDoor.Ext.below_bytes | apply pw_below_drewN | apply below_drew1) | exact HB.out))); rintro e w6 ⟨rfl, hb⟩; refine ⟨_, rfl, ?_⟩; have n0_ := Aside0.mk (below_step (by repeat (first | (with_reducible first | exact HB.out | apply below_alloc | apply Go.Proofs.YtplmmblofhhikaaDoor.Ext.below_bytes | apply pw_below_drewN | apply below_drew1) | exact HB.out)) hb); clear HB; have HB := n0_; clear n0_; (try clear hb); (try clear hb2); (try clear hk); (try clear hi)))
        go_ret
        exact ⟨by first | rfl | (simp [errW_none, errW_some] <;> rfl) | (simp [*, errW_none, errW_some] <;> rfl), by repeat (first | (with_reducible first | exact HB.out | apply below_alloc | apply Go.Proofs.YtplmmblofhhikaaDoor.Ext.below_bytes | apply pw_below_drewN | apply below_drew1) | exact HB.out)⟩
      · rw [if_neg c5] at H
        exact absurd H (by simp)
    · rw [if_neg c4] at H
      exact absurd H (by simp)
  · rw [if_neg c2] at H
    have c2b0 : decide (1 < a0) = false := decide_eq_false c2
    clear c2
    by_cases c7 : 2 + 0 ≤ 9223372036854775807
    · rw [if_pos c7] at H
      have c7b0 := eq_true c7
      have c7b1 : decide (2 + 0 ≤ 9223372036854775807) = true := decide_eq_true c7
      try have c7b2 : (9223372036854775807 < 2 + 0) = False := eq_false (Nat.not_lt.2 c7)
      by_cases c8 : 2 + 0 + 1 ≤ 9223372036854775807
      · rw [if_pos c8] at H
        have c8b0 := eq_true c8
        have c8b1 : decide (2 + 0 + 1 ≤ 9223372036854775807) = true := decide_eq_true c8
        try have c8b2 : (9223372036854775807 < 2 + 0 + 1) = False := eq_false (Nat.not_lt.2 c8)
        obtain rfl := Option.some.inj H
        go_enter Tryd.func39, Tryd.ntmps39
        go_wp2
        go_ret
        exact ⟨by first | rfl | (simp [errW_none, errW_some] <;> rfl) | (simp [*, errW_none, errW_some] <;> rfl), by repeat (first | (with_reducible first | exact HB.out | apply below_alloc | apply Go.Proofs.YtplmmblofhhikaaDoor.Ext.below_bytes | apply pw_below_drewN | apply below_drew1) | exact HB.out)⟩
      · rw [if_neg c8] at H
        exact absurd H (by simp)
    · rw [if_neg c7] at H
      exact absurd H (by simp)

/-! ### xansi_CursorBackward: function 40 -/
def xansi_CursorBackward.f (a0 : Int) : Option (ByteArray) := if a0 > 1 then ((strconv_Itoa.f a0).bind fun t104 => (if 2 + t104.size ≤ 9223372036854775807 then (if 2 + t104.size + 1 ≤ 9223372036854775807 then (some (((⟨#[27, 91]⟩ : ByteArray) ++ t104) ++ (⟨#[68]⟩ : ByteArray))) else (none)) else (none))) else (if 2 + 0 ≤ 9223372036854775807 then (if 2 + 0 + 1 ≤ 9223372036854775807 then (some (((⟨#[27, 91]⟩ : ByteArray) ++ (⟨#[]⟩ : ByteArray)) ++ (⟨#[68]⟩ : ByteArray))) else (none)) else (none))
set_option maxHeartbeats 8000000 in
set_option maxRecDepth 100000 in
theorem xansi_CursorBackward.calls (a0 : Int) (r : ByteArray) (w : World) (hLD : Laid w) (h : xansi_CursorBackward.f a0 = some r) :
    Calls Tryd.prog 40 #[.int .i64 a0] w fun e w' => e = .returned (.string r) ∧ Below w.heap.size w w' := by
  have HLD := Aside0.mk hLD
  clear hLD
  have HB := Aside0.mk (Below.refl w.heap.size w)
  have H : (if a0 > 1 then ((strconv_Itoa.f a0).bind fun t104 => (if 2 + t104.size ≤ 9223372036854775807 then (if 2 + t104.size + 1 ≤ 9223372036854775807 then (some (((⟨#[27, 91]⟩ : ByteArray) ++ t104) ++ (⟨#[68]⟩ : ByteArray))) else (none)) else (none))) else (if 2 + 0 ≤ 9223372036854775807 then (if 2 + 0 + 1 ≤ 9223372036854775807 then (some (((⟨#[27, 91]⟩ : ByteArray) ++ (⟨#[]⟩ : ByteArray)) ++ (⟨#[68]⟩ : ByteArray))) else (none)) else (none))) = some r := h
  clear h
  by_cases c2 : a0 > 1
  · rw [if_pos c2] at H
    have c2b0 : decide (1 < a0) = true := decide_eq_true c2
    clear c2
    replace H := Option.bind_eq_some_iff.mp H
    obtain ⟨t104, A30, H⟩ := H
    replace H : (if 2 + t104.size ≤ 9223372036854775807 then (if 2 + t104.size + 1 ≤ 9223372036854775807 then (some (((⟨#[27, 91]⟩ : ByteArray) ++ t104) ++ (⟨#[68]⟩ : ByteArray))) else (none)) else (none)) = some r := H
    have A3 := Aside0.mk A30
    clear A30
    by_cases c4 : 2 + t104.size ≤ 9223372036854775807
    · rw [if_pos c4] at H
      have c4b0 := eq_true c4
      have c4b1 : decide (2 + t104.size ≤ 9223372036854775807) = true := decide_eq_true c4
      try have c4b2 : (9223372036854775807 < 2 + t104.size) = False := eq_false (Nat.not_lt.2 c4)
      by_cases c5 : 2 + t104.size + 1 ≤ 9223372036854775807
      · rw [if_pos c5] at H
        have c5b0 := eq_true c5
        have c5b1 : decide (2 + t104.size + 1 ≤ 9223372036854775807) = true := decide_eq_true c5
        try have c5b2 : (9223372036854775807 < 2 + t104.size + 1) = False := eq_false (Nat.not_lt.2 c5)
        obtain rfl := Option.some.inj H
        go_enter Tryd.func40, Tryd.ntmps40
        go_wp2_with (first | ((with_reducible refine gate_callee (f := 109) rfl ?_); refine goesL_ (some 7) rfl rfl Tryd.func109 (by kernel_rfl) rfl #[.int .i64 a0] rfl (by (try simp only [List.map_toArray, List.map_cons, List.map_nil]); first | done | rfl | (simp only [List.length_drop, List.length_take]; rfl) | (simp [Act.eval, *]; done) | (simp [Act.eval, *]; unfold wrap64; omega)) ?_; (with_reducible refine (strconv_Itoa.calls a0 t104 _ ?side1 A3.out).mono ?_); (case side1 => exact HLD.out.below (by repeat (first | (with_reducible first | exact HB.out | apply below_alloc | apply Go.Proofs.YtplmmblofhhikaaDoor.Ext.below_bytes | apply pw_below_drewN | apply below_drew1) | exact HB.out))); rintro e w6 ⟨rfl, hb⟩; refine ⟨_, rfl, ?_⟩; have n0_ := Aside0.mk (below_step (by repeat (first | (with_reducible first | exact HB.out | apply below_alloc | apply Go.Proofs.YtplmmblofhhikaaDoor.Ext.below_bytes | apply pw_below_drewN | apply below_drew1) | exact HB.out)) hb); clear HB; have HB := n0_; clear n0_; (try clear hb); (try clear hb2); (try clear hk); (try clear hi)))
        go_ret
        exact ⟨by first | rfl | (simp [errW_none, errW_some] <;> rfl) | (simp [*, errW_none, errW_some] <;> rfl), by repeat (first | (with_reducible first | exact HB.out | apply below_alloc | apply Go.Proofs.YtplmmblofhhikaaDoor.Ext.below_bytes | apply pw_below_drewN | apply below_drew1) | exact HB.out)⟩
      · rw [if_neg c5] at H
        exact absurd H (by simp)
    · rw [if_neg c4] at H
      exact absurd H (by simp)
  · rw [if_neg c2] at H
    have c2b0 : decide (1 < a0) = false := decide_eq_false c2
    clear c2
    by_cases c7 : 2 + 0 ≤ 9223372036854775807
    · rw [if_pos c7] at H
      have c7b0 := eq_true c7
      have c7b1 : decide (2 + 0 ≤ 9223372036854775807) = true := decide_eq_true c7
      try have c7b2 : (9223372036854775807 < 2 + 0) = False := eq_false (Nat.not_lt.2 c7)
      by_cases c8 : 2 + 0 + 1 ≤ 9223372036854775807
      · rw [if_pos c8] at H
        have c8b0 := eq_true c8
        have c8b1 : decide (2 + 0 + 1 ≤ 9223372036854775807) = true := decide_eq_true c8
        try have c8b2 : (9223372036854775807 < 2 + 0 + 1) = False := eq_false (Nat.not_lt.2 c8)
        obtain rfl := Option.some.inj H
        go_enter Tryd.func40, Tryd.ntmps40
        go_wp2
        go_ret
        exact ⟨by first | rfl | (simp [errW_none, errW_some] <;> rfl) | (simp [*, errW_none, errW_some] <;> rfl), by repeat (first | (with_reducible first | exact HB.out | apply below_alloc | apply Go.Proofs.YtplmmblofhhikaaDoor.Ext.below_bytes | apply pw_below_drewN | apply below_drew1) | exact HB.out)⟩
      · rw [if_neg c8] at H
        exact absurd H (by simp)
    · rw [if_neg c7] at H
      exact absurd H (by simp)

/-! ### xansi_CursorNextLine: function 41 -/
def xansi_CursorNextLine.f (a0 : Int) : Option (ByteArray) := if a0 > 1 then ((strconv_Itoa.f a0).bind fun t105 => (if 2 + t105.size ≤ 9223372036854775807 then (if 2 + t105.size + 1 ≤ 9223372036854775807 then (some (((⟨#[27, 91]⟩ : ByteArray) ++ t105) ++ (⟨#[69]⟩ : ByteArray))) else (none)) else (none))) else (if 2 + 0 ≤ 9223372036854775807 then (if 2 + 0 + 1 ≤ 9223372036854775807 then (some (((⟨#[27, 91]⟩ : ByteArray) ++ (⟨#[]⟩ : ByteArray)) ++ (⟨#[69]⟩ : ByteArray))) else (none)) else (none))
set_option maxHeartbeats 8000000 in
set_option maxRecDepth 100000 in
theorem xansi_CursorNextLine.calls (a0 : Int) (r : ByteArray) (w : World) (hLD : Laid w) (h : xansi_CursorNextLine.f a0 = some r) :
    Calls Tryd.prog 41 #[.int .i64 a0] w fun e w' => e = .returned (.string r) ∧ Below w.heap.size w w' := by
  have HLD := Aside0.mk hLD
  clear hLD
  have HB := Aside0.mk (Below.refl w.heap.size w)
  have H : (if a0 > 1 then ((strconv_Itoa.f a0).bind fun t105 => (if 2 + t105.size ≤ 9223372036854775807 then (if 2 + t105.size + 1 ≤ 9223372036854775807 then (some (((⟨#[27, 91]⟩ : ByteArray) ++ t105) ++ (⟨#[69]⟩ : ByteArray))) else (none)) else (none))) else (if 2 + 0 ≤ 9223372036854775807 then (if 2 + 0 + 1 ≤ 9223372036854775807 then (some (((⟨#[27, 91]⟩ : ByteArray) ++ (⟨#[]⟩ : ByteArray)) ++ (⟨#[69]⟩ : ByteArray))) else (none)) else (none))) = some r := h
  clear h
  by_cases c2 : a0 > 1
  · rw [if_pos c2] at H
    have c2b0 : decide (1 < a0) = true := decide_eq_true c2
    clear c2
    replace H := Option.bind_eq_some_iff.mp H
    obtain ⟨t105, A30, H⟩ := H
    replace H : (if 2 + t105.size ≤ 9223372036854775807 then (if 2 + t105.size + 1 ≤ 9223372036854775807 then (some (((⟨#[27, 91]⟩ : ByteArray) ++ t105) ++ (⟨#[69]⟩ : ByteArray))) else (none)) else (none)) = some r := H
    have A3 := Aside0.mk A30
    clear A30
    by_cases c4 : 2 + t105.size ≤ 9223372036854775807
    · rw [if_pos c4] at H
      have c4b0 := eq_true c4
      have c4b1 : decide (2 + t105.size ≤ 9223372036854775807) = true := decide_eq_true c4
      try have c4b2 : (9223372036854775807 < 2 + t105.size) = False := eq_false (Nat.not_lt.2 c4)
      by_cases c5 : 2 + t105.size + 1 ≤ 9223372036854775807
      · rw [if_pos c5] at H
        have c5b0 := eq_true c5
        have c5b1 : decide (2 + t105.size + 1 ≤ 9223372036854775807) = true := decide_eq_true c5
        try have c5b2 : (9223372036854775807 < 2 + t105.size + 1) = False := eq_false (Nat.not_lt.2 c5)
        obtain rfl := Option.some.inj H
        go_enter Tryd.func41, Tryd.ntmps41
        go_wp2_with (first | ((with_reducible refine gate_callee (f := 109) rfl ?_); refine goesL_ (some 7) rfl rfl Tryd.func109 (by kernel_rfl) rfl #[.int .i64 a0] rfl (by (try simp only [List.map_toArray, List.map_cons, List.map_nil]); first | done | rfl | (simp only [List.length_drop, List.length_take]; rfl) | (simp [Act.eval, *]; done) | (simp [Act.eval, *]; unfold wrap64; omega)) ?_; (with_reducible refine (strconv_Itoa.calls a0 t105 _ ?side1 A3.out).mono ?_); (case side1 => exact HLD.out.below (by repeat (first | (with_reducible first | exact HB.out | apply below_alloc | apply Go.Proofs.YtplmmblofhhikaaDoor.Ext.below_bytes | apply pw_below_drewN | apply below_drew1) | exact HB.out))); rintro e w6 ⟨rfl, hb⟩; refine ⟨_, rfl, ?_⟩; have n0_ := Aside0.mk (below_step (by repeat (first | (with_reducible first | exact HB.out | apply below_alloc | apply Go.Proofs.YtplmmblofhhikaaDoor.Ext.below_bytes | apply pw_below_drewN | apply below_drew1) | exact HB.out)) hb); clear HB; have HB := n0_; clear n0_; (try clear hb); (try clear hb2); (try clear hk); (try clear hi)))
        go_ret
        exact ⟨by first | rfl | (simp [errW_none, errW_some] <;> rfl) | (simp [*, errW_none, errW_some] <;> rfl), by repeat (first | (with_reducible first | exact HB.out | apply below_alloc | apply Go.Proofs.YtplmmblofhhikaaDoor.Ext.below_bytes | apply pw_below_drewN | apply below_drew1) | exact HB.out)⟩
      · rw [if_neg c5] at H
        exact absurd H (by simp)
    · rw [if_neg c4] at H
      exact absurd H (by simp)
  · rw [if_neg c2] at H
    have c2b0 : decide (1 < a0) = false := decide_eq_false c2
    clear c2
    by_cases c7 : 2 + 0 ≤ 9223372036854775807
    · rw [if_pos c7] at H
      have c7b0 := eq_true c7
      have c7b1 : decide (2 + 0 ≤ 9223372036854775807) = true := decide_eq_true c7
      try have c7b2 : (9223372036854775807 < 2 + 0) = False := eq_false (Nat.not_lt.2 c7)
      by_cases c8 : 2 + 0 + 1 ≤ 9223372036854775807
      · rw [if_pos c8] at H
        have c8b0 := eq_true c8
        have c8b1 : decide (2 + 0 + 1 ≤ 9223372036854775807) = true := decide_eq_true c8
        try have c8b2 : (9223372036854775807 < 2 + 0 + 1) = False := eq_false (Nat.not_lt.2 c8)
        obtain rfl := Option.some.inj H
        go_enter Tryd.func41, Tryd.ntmps41
        go_wp2
        go_ret
        exact ⟨by first | rfl | (simp [errW_none, errW_some] <;> rfl) | (simp [*, errW_none, errW_some] <;> rfl), by repeat (first | (with_reducible first | exact HB.out | apply below_alloc | apply Go.Proofs.YtplmmblofhhikaaDoor.Ext.below_bytes | apply pw_below_drewN | apply below_drew1) | exact HB.out)⟩
      · rw [if_neg c8] at H
        exact absurd H (by simp)
    · rw [if_neg c7] at H
      exact absurd H (by simp)

/-! ### xansi_CursorPreviousLine: function 42 -/
def xansi_CursorPreviousLine.f (a0 : Int) : Option (ByteArray) := if a0 > 1 then ((strconv_Itoa.f a0).bind fun t106 => (if 2 + t106.size ≤ 9223372036854775807 then (if 2 + t106.size + 1 ≤ 9223372036854775807 then (some (((⟨#[27, 91]⟩ : ByteArray) ++ t106) ++ (⟨#[70]⟩ : ByteArray))) else (none)) else (none))) else (if 2 + 0 ≤ 9223372036854775807 then (if 2 + 0 + 1 ≤ 9223372036854775807 then (some (((⟨#[27, 91]⟩ : ByteArray) ++ (⟨#[]⟩ : ByteArray)) ++ (⟨#[70]⟩ : ByteArray))) else (none)) else (none))
set_option maxHeartbeats 8000000 in
set_option maxRecDepth 100000 in
theorem xansi_CursorPreviousLine.calls (a0 : Int) (r : ByteArray) (w : World) (hLD : Laid w) (h : xansi_CursorPreviousLine.f a0 = some r) :
    Calls Tryd.prog 42 #[.int .i64 a0] w fun e w' => e = .returned (.string r) ∧ Below w.heap.size w w' := by
  have HLD := Aside0.mk hLD
  clear hLD
  have HB := Aside0.mk (Below.refl w.heap.size w)
  have H : (if a0 > 1 then ((strconv_Itoa.f a0).bind fun t106 => (if 2 + t106.size ≤ 9223372036854775807 then (if 2 + t106.size + 1 ≤ 9223372036854775807 then (some (((⟨#[27, 91]⟩ : ByteArray) ++ t106) ++ (⟨#[70]⟩ : ByteArray))) else (none)) else (none))) else (if 2 + 0 ≤ 9223372036854775807 then (if 2 + 0 + 1 ≤ 9223372036854775807 then (some (((⟨#[27, 91]⟩ : ByteArray) ++ (⟨#[]⟩ : ByteArray)) ++ (⟨#[70]⟩ : ByteArray))) else (none)) else (none))) = some r := h
  clear h
  by_cases c2 : a0 > 1
  · rw [if_pos c2] at H
    have c2b0 : decide (1 < a0) = true := decide_eq_true c2
    clear c2
    replace H := Option.bind_eq_some_iff.mp H
    obtain ⟨t106, A30, H⟩ := H
    replace H : (if 2 + t106.size ≤ 9223372036854775807 then (if 2 + t106.size + 1 ≤ 9223372036854775807 then (some (((⟨#[27, 91]⟩ : ByteArray) ++ t106) ++ (⟨#[70]⟩ : ByteArray))) else (none)) else (none)) = some r := H
    have A3 := Aside0.mk A30
    clear A30
    by_cases c4 : 2 + t106.size ≤ 9223372036854775807
    · rw [if_pos c4] at H
      have c4b0 := eq_true c4
      have c4b1 : decide (2 + t106.size ≤ 9223372036854775807) = true := decide_eq_true c4
      try have c4b2 : (9223372036854775807 < 2 + t106.size) = False := eq_false (Nat.not_lt.2 c4)
      by_cases c5 : 2 + t106.size + 1 ≤ 9223372036854775807
      · rw [if_pos c5] at H
        have c5b0 := eq_true c5
        have c5b1 : decide (2 + t106.size + 1 ≤ 9223372036854775807) = true := decide_eq_true c5
        try have c5b2 : (9223372036854775807 < 2 + t106.size + 1) = False := eq_false (Nat.not_lt.2 c5)
        obtain rfl := Option.some.inj H
        go_enter Tryd.func42, Tryd.ntmps42
        go_wp2_with (first | ((with_reducible refine gate_callee (f := 109) rfl ?_); refine goesL_ (some 7) rfl rfl Tryd.func109 (by kernel_rfl) rfl #[.int .i64 a0] rfl (by (try simp only [List.map_toArray, List.map_cons, List.map_nil]); first | done | rfl | (simp only [List.length_drop, List.length_take]; rfl) | (simp [Act.eval, *]; done) | (simp [Act.eval, *]; unfold wrap64; omega)) ?_; (with_reducible refine (strconv_Itoa.calls a0 t106 _ ?side1 A3.out).mono ?_); (case side1 => exact HLD.out.below (by repeat (first | (with_reducible first | exact HB.out | apply below_alloc | apply Go.Proofs.YtplmmblofhhikaaDoor.Ext.below_bytes | apply pw_below_drewN | apply below_drew1) | exact HB.out))); rintro e w6 ⟨rfl, hb⟩; refine ⟨_, rfl, ?_⟩; have n0_ := Aside0.mk (below_step (by repeat (first | (with_reducible first | exact HB.out | apply below_alloc | apply Go.Proofs.YtplmmblofhhikaaDoor.Ext.below_bytes | apply pw_below_drewN | apply below_drew1) | exact HB.out)) hb); clear HB; have HB := n0_; clear n0_; (try clear hb); (try clear hb2); (try clear hk); (try clear hi)))
        go_ret
        exact ⟨by first | rfl | (simp [errW_none, errW_some] <;> rfl) | (simp [*, errW_none, errW_some] <;> rfl), by repeat (first | (with_reducible first | exact HB.out | apply below_alloc | apply Go.Proofs.YtplmmblofhhikaaDoor.Ext.below_bytes | apply pw_below_drewN | apply below_drew1) | exact HB.out)⟩
      · rw [if_neg c5] at H
        exact absurd H (by simp)
    · rw [if_neg c4] at H
      exact absurd H (by simp)
  · rw [if_neg c2] at H
    have c2b0 : decide (1 < a0) = false := decide_eq_false c2
    clear c2
    by_cases c7 : 2 + 0 ≤ 9223372036854775807
    · rw [if_pos c7] at H
      have c7b0 := eq_true c7
      have c7b1 : decide (2 + 0 ≤ 9223372036854775807) = true := decide_eq_true c7
      try have c7b2 : (9223372036854775807 < 2 + 0) = False := eq_false (Nat.not_lt.2 c7)
      by_cases c8 : 2 + 0 + 1 ≤ 9223372036854775807
      · rw [if_pos c8] at H
        have c8b0 := eq_true c8
        have c8b1 : decide (2 + 0 + 1 ≤ 9223372036854775807) = true := decide_eq_true c8
        try have c8b2 : (9223372036854775807 < 2 + 0 + 1) = False := eq_false (Nat.not_lt.2 c8)
        obtain rfl := Option.some.inj H
        go_enter Tryd.func42, Tryd.ntmps42
        go_wp2
        go_ret
        exact ⟨by first | rfl | (simp [errW_none, errW_some] <;> rfl) | (simp [*, errW_none, errW_some] <;> rfl), by repeat (first | (with_reducible first | exact HB.out | apply below_alloc | apply Go.Proofs.YtplmmblofhhikaaDoor.Ext.below_bytes | apply pw_below_drewN | apply below_drew1) | exact HB.out)⟩
      · rw [if_neg c8] at H
        exact absurd H (by simp)
    · rw [if_neg c7] at H
      exact absurd H (by simp)

/-! ### xansi_CursorHorizontalAbsolute: function 43 -/
def xansi_CursorHorizontalAbsolute.f (a0 : Int) : Option (ByteArray) := if a0 > 0 then ((strconv_Itoa.f a0).bind fun t107 => (if 2 + t107.size ≤ 9223372036854775807 then (if 2 + t107.size + 1 ≤ 9223372036854775807 then (some (((⟨#[27, 91]⟩ : ByteArray) ++ t107) ++ (⟨#[71]⟩ : ByteArray))) else (none)) else (none))) else (if 2 + 0 ≤ 9223372036854775807 then (if 2 + 0 + 1 ≤ 9223372036854775807 then (some (((⟨#[27, 91]⟩ : ByteArray) ++ (⟨#[]⟩ : ByteArray)) ++ (⟨#[71]⟩ : ByteArray))) else (none)) else (none))
set_option maxHeartbeats 8000000 in
set_option maxRecDepth 100000 in
theorem xansi_CursorHorizontalAbsolute.calls (a0 : Int) (r : ByteArray) (w : World) (hLD : Laid w) (h : xansi_CursorHorizontalAbsolute.f a0 = some r) :
    Calls Tryd.prog 43 #[.int .i64 a0] w fun e w' => e = .returned (.string r) ∧ Below w.heap.size w w' := by
  have HLD := Aside0.mk hLD
  clear hLD
  have HB := Aside0.mk (Below.refl w.heap.size w)
  have H : (if a0 > 0 then ((strconv_Itoa.f a0).bind fun t107 => (if 2 + t107.size ≤ 9223372036854775807 then (if 2 + t107.size + 1 ≤ 9223372036854775807 then (some (((⟨#[27, 91]⟩ : ByteArray) ++ t107) ++ (⟨#[71]⟩ : ByteArray))) else (none)) else (none))) else (if 2 + 0 ≤ 9223372036854775807 then (if 2 + 0 + 1 ≤ 9223372036854775807 then (some (((⟨#[27, 91]⟩ : ByteArray) ++ (⟨#[]⟩ : ByteArray)) ++ (⟨#[71]⟩ : ByteArray))) else (none)) else (none))) = some r := h
  clear h
  by_cases c2 : a0 > 0
  · rw [if_pos c2] at H
    have c2b0 : decide (0 < a0) = true := decide_eq_true c2
    clear c2
    replace H := Option.bind_eq_some_iff.mp H
    obtain ⟨t107, A30, H⟩ := H
    replace H : (if 2 + t107.size ≤ 9223372036854775807 then (if 2 + t107.size + 1 ≤ 9223372036854775807 then (some (((⟨#[27, 91]⟩ : ByteArray) ++ t107) ++ (⟨#[71]⟩ : ByteArray))) else (none)) else (none)) = some r := H
    have A3 := Aside0.mk A30
    clear A30
    by_cases c4 : 2 + t107.size ≤ 9223372036854775807
    · rw [if_pos c4] at H
      have c4b0 := eq_true c4
      have c4b1 : decide (2 + t107.size ≤ 9223372036854775807) = true := decide_eq_true c4
      try have c4b2 : (9223372036854775807 < 2 + t107.size) = False := eq_false (Nat.not_lt.2 c4)
      by_cases c5 : 2 + t107.size + 1 ≤ 9223372036854775807
      · rw [if_pos c5] at H
        have c5b0 := eq_true c5
        have c5b1 : decide (2 + t107.size + 1 ≤ 9223372036854775807) = true := decide_eq_true c5
        try have c5b2 : (9223372036854775807 < 2 + t107.size + 1) = False := eq_false (Nat.not_lt.2 c5)
        obtain rfl := Option.some.inj H
        go_enter Tryd.func43, Tryd.ntmps43
        go_wp2_with (first | ((with_reducible refine gate_callee (f := 109) rfl ?_); refine goesL_ (some 7) rfl rfl Tryd.func109 (by kernel_rfl) rfl #[.int .i64 a0] rfl (by (try simp only [List.map_toArray, List.map_cons, List.map_nil]); first | done | rfl | (simp only [List.length_drop, List.length_take]; rfl) | (simp [Act.eval, *]; done) | (simp [Act.eval, *]; unfold wrap64; omega)) ?_; (with_reducible refine (strconv_Itoa.calls a0 t107 _ ?side1 A3.out).mono ?_); (case side1 => exact HLD.out.below (by repeat (first | (with_reducible first | exact HB.out | apply below_alloc | apply Go.Proofs.YtplmmblofhhikaaDoor.Ext.below_bytes | apply pw_below_drewN | apply below_drew1) | exact HB.out))); rintro e w6 ⟨rfl, hb⟩; refine ⟨_, rfl, ?_⟩; have n0_ := Aside0.mk (below_step (by repeat (first | (with_reducible first | exact HB.out | apply below_alloc | apply Go.Proofs.YtplmmblofhhikaaDoor.Ext.below_bytes | apply pw_below_drewN | apply below_drew1) | exact HB.out)) hb); clear HB; have HB := n0_; clear n0_; (try clear hb); (try clear hb2); (try clear hk); (try clear hi)))
        go_ret
        exact ⟨by first | rfl | (simp [errW_none, errW_some] <;> rfl) | (simp [*, errW_none, errW_some] <;> rfl), by repeat (first | (with_reducible first | exact HB.out | apply below_alloc | apply Go.Proofs.YtplmmblofhhikaaDoor.Ext.below_bytes | apply pw_below_drewN | apply below_drew1) | exact HB.out)⟩
      · rw [if_neg c5] at H
        exact absurd H (by simp)
    · rw [if_neg c4] at H
      exact absurd H (by simp)
  · rw [if_neg c2] at H
    have c2b0 : decide (0 < a0) = false := decide_eq_false c2
    clear c2
    by_cases c7 : 2 + 0 ≤ 9223372036854775807
    · rw [if_pos c7] at H
      have c7b0 := eq_true c7
      have c7b1 : decide (2 + 0 ≤ 9223372036854775807) = true := decide_eq_true c7
      try have c7b2 : (9223372036854775807 < 2 + 0) = False := eq_false (Nat.not_lt.2 c7)
      by_cases c8 : 2 + 0 + 1 ≤ 9223372036854775807
      · rw [if_pos c8] at H
        have c8b0 := eq_true c8
        have c8b1 : decide (2 + 0 + 1 ≤ 9223372036854775807) = true := decide_eq_true c8
        try have c8b2 : (9223372036854775807 < 2 + 0 + 1) = False := eq_false (Nat.not_lt.2 c8)
        obtain rfl := Option.some.inj H
        go_enter Tryd.func43, Tryd.ntmps43
        go_wp2
        go_ret
        exact ⟨by first | rfl | (simp [errW_none, errW_some] <;> rfl) | (simp [*, errW_none, errW_some] <;> rfl), by repeat (first | (with_reducible first | exact HB.out | apply below_alloc | apply Go.Proofs.YtplmmblofhhikaaDoor.Ext.below_bytes | apply pw_below_drewN | apply below_drew1) | exact HB.out)⟩
      · rw [if_neg c8] at H
        exact absurd H (by simp)
    · rw [if_neg c7] at H
      exact absurd H (by simp)

/-! ### xansi_CursorHorizontalForwardTab: function 44 -/
def xansi_CursorHorizontalForwardTab.f (a0 : Int) : Option (ByteArray) := if a0 > 1 then ((strconv_Itoa.f a0).bind fun t108 => (if 2 + t108.size ≤ 9223372036854775807 then (if 2 + t108.size + 1 ≤ 9223372036854775807 then (some (((⟨#[27, 91]⟩ : ByteArray) ++ t108) ++ (⟨#[73]⟩ : ByteArray))) else (none)) else (none))) else (if 2 + 0 ≤ 9223372036854775807 then (if 2 + 0 + 1 ≤ 9223372036854775807 then (some (((⟨#[27, 91]⟩ : ByteArray) ++ (⟨#[]⟩ : ByteArray)) ++ (⟨#[73]⟩ : ByteArray))) else (none)) else (none))
set_option maxHeartbeats 8000000 in
set_option maxRecDepth 100000 in
theorem xansi_CursorHorizontalForwardTab.calls (a0 : Int) (r : ByteArray) (w : World) (hLD : Laid w) (h : xansi_CursorHorizontalForwardTab.f a0 = some r) :
    Calls Tryd.prog 44 #[.int .i64 a0] w fun e w' => e = .returned (.string r) ∧ Below w.heap.size w w' := by
  have HLD := Aside0.mk hLD
  clear hLD
  have HB := Aside0.mk (Below.refl w.heap.size w)
  have H : (if a0 > 1 then ((strconv_Itoa.f a0).bind fun t108 => (if 2 + t108.size ≤ 9223372036854775807 then (if 2 + t108.size + 1 ≤ 9223372036854775807 then (some (((⟨#[27, 91]⟩ : ByteArray) ++ t108) ++ (⟨#[73]⟩ : ByteArray))) else (none)) else (none))) else (if 2 + 0 ≤ 9223372036854775807 then (if 2 + 0 + 1 ≤ 9223372036854775807 then (some (((⟨#[27, 91]⟩ : ByteArray) ++ (⟨#[]⟩ : ByteArray)) ++ (⟨#[73]⟩ : ByteArray))) else (none)) else (none))) = some r := h
  clear h
  by_cases c2 : a0 > 1
  · rw [if_pos c2] at H
    have c2b0 : decide (1 < a0) = true := decide_eq_true c2
    clear c2
    replace H := Option.bind_eq_some_iff.mp H
    obtain ⟨t108, A30, H⟩ := H
    replace H : (if 2 + t108.size ≤ 9223372036854775807 then (if 2 + t108.size + 1 ≤ 9223372036854775807 then (some (((⟨#[27, 91]⟩ : ByteArray) ++ t108) ++ (⟨#[73]⟩ : ByteArray))) else (none)) else (none)) = some r := H
    have A3 := Aside0.mk A30
    clear A30
    by_cases c4 : 2 + t108.size ≤ 9223372036854775807
    · rw [if_pos c4] at H
      have c4b0 := eq_true c4
      have c4b1 : decide (2 + t108.size ≤ 9223372036854775807) = true := decide_eq_true c4
      try have c4b2 : (9223372036854775807 < 2 + t108.size) = False := eq_false (Nat.not_lt.2 c4)
      by_cases c5 : 2 + t108.size + 1 ≤ 9223372036854775807
      · rw [if_pos c5] at H
        have c5b0 := eq_true c5
        have c5b1 : decide (2 + t108.size + 1 ≤ 9223372036854775807) = true := decide_eq_true c5
        try have c5b2 : (9223372036854775807 < 2 + t108.size + 1) = False := eq_false (Nat.not_lt.2 c5)
        obtain rfl := Option.some.inj H
        go_enter Tryd.func44, Tryd.ntmps44
        go_wp2_with (first | ((with_reducible refine gate_callee (f := 109) rfl ?_); refine goesL_ (some 7) rfl rfl Tryd.func109 (by kernel_rfl) rfl #[.int .i64 a0] rfl (by (try simp only [List.map_toArray, List.map_cons, List.map_nil]); first | done | rfl | (simp only [List.length_drop, List.length_take]; rfl) | (simp [Act.eval, *]; done) | (simp [Act.eval, *]; unfold wrap64; omega)) ?_; (with_reducible refine (strconv_Itoa.calls a0 t108 _ ?side1 A3.out).mono ?_); (case side1 => exact HLD.out.below (by repeat (first | (with_reducible first | exact HB.out | apply below_alloc | apply Go.Proofs.YtplmmblofhhikaaDoor.Ext.below_bytes | apply pw_below_drewN | apply below_drew1) | exact HB.out))); rintro e w6 ⟨rfl, hb⟩; refine ⟨_, rfl, ?_⟩; have n0_ := Aside0.mk (below_step (by repeat (first | (with_reducible first | exact HB.out | apply below_alloc | apply Go.Proofs.YtplmmblofhhikaaDoor.Ext.below_bytes | apply pw_below_drewN | apply below_drew1) | exact HB.out)) hb); clear HB; have HB := n0_; clear n0_; (try clear hb); (try clear hb2); (try clear hk); (try clear hi)))
        go_ret
        exact ⟨by first | rfl | (simp [errW_none, errW_some] <;> rfl) | (simp [*, errW_none, errW_some] <;> rfl), by repeat (first | (with_reducible first | exact HB.out | apply below_alloc | apply Go.Proofs.YtplmmblofhhikaaDoor.Ext.below_bytes | apply pw_below_drewN | apply below_drew1) | exact HB.out)⟩
      · rw [if_neg c5] at H
        exact absurd H (by simp)
    · rw [if_neg c4] at H
      exact absurd H (by simp)
  · rw [if_neg c2] at H
    have c2b0 : decide (1 < a0) = false := decide_eq_false c2
    clear c2
    by_cases c7 : 2 + 0 ≤ 9223372036854775807
    · rw [if_pos c7] at H
      have c7b0 := eq_true c7
      have c7b1 : decide (2 + 0 ≤ 9223372036854775807) = true := decide_eq_true c7
      try have c7b2 : (9223372036854775807 < 2 + 0) = False := eq_false (Nat.not_lt.2 c7)
      by_cases c8 : 2 + 0 + 1 ≤ 9223372036854775807
      · rw [if_pos c8] at H
        have c8b0 := eq_true c8
        have c8b1 : decide (2 + 0 + 1 ≤ 9223372036854775807) = true := decide_eq_true c8
        try have c8b2 : (9223372036854775807 < 2 + 0 + 1) = False := eq_false (Nat.not_lt.2 c8)
        obtain rfl := Option.some.inj H
        go_enter Tryd.func44, Tryd.ntmps44
        go_wp2
        go_ret
        exact ⟨by first | rfl | (simp [errW_none, errW_some] <;> rfl) | (simp [*, errW_none, errW_some] <;> rfl), by repeat (first | (with_reducible first | exact HB.out | apply below_alloc | apply Go.Proofs.YtplmmblofhhikaaDoor.Ext.below_bytes | apply pw_below_drewN | apply below_drew1) | exact HB.out)⟩
      · rw [if_neg c8] at H
        exact absurd H (by simp)
    · rw [if_neg c7] at H
      exact absurd H (by simp)

/-! ### xansi_CursorBackwardTab: function 45 -/
def xansi_CursorBackwardTab.f (a0 : Int) : Option (ByteArray) := if a0 > 1 then ((strconv_Itoa.f a0).bind fun t109 => (if 2 + t109.size ≤ 9223372036854775807 then (if 2 + t109.size + 1 ≤ 9223372036854775807 then (some (((⟨#[27, 91]⟩ : ByteArray) ++ t109) ++ (⟨#[90]⟩ : ByteArray))) else (none)) else (none))) else (if 2 + 0 ≤ 9223372036854775807 then (if 2 + 0 + 1 ≤ 9223372036854775807 then (some (((⟨#[27, 91]⟩ : ByteArray) ++ (⟨#[]⟩ : ByteArray)) ++ (⟨#[90]⟩ : ByteArray))) else (none)) else (none))
set_option maxHeartbeats 8000000 in
set_option maxRecDepth 100000 in
theorem xansi_CursorBackwardTab.calls (a0 : Int) (r : ByteArray) (w : World) (hLD : Laid w) (h : xansi_CursorBackwardTab.f a0 = some r) :
    Calls Tryd.prog 45 #[.int .i64 a0] w fun e w' => e = .returned (.string r) ∧ Below w.heap.size w w' := by
  have HLD := Aside0.mk hLD
  clear hLD
  have HB := Aside0.mk (Below.refl w.heap.size w)
  have H : (if a0 > 1 then ((strconv_Itoa.f a0).bind fun t109 => (if 2 + t109.size ≤ 9223372036854775807 then (if 2 + t109.size + 1 ≤ 9223372036854775807 then (some (((⟨#[27, 91]⟩ : ByteArray) ++ t109) ++ (⟨#[90]⟩ : ByteArray))) else (none)) else (none))) else (if 2 + 0 ≤ 9223372036854775807 then (if 2 + 0 + 1 ≤ 9223372036854775807 then (some (((⟨#[27, 91]⟩ : ByteArray) ++ (⟨#[]⟩ : ByteArray)) ++ (⟨#[90]⟩ : ByteArray))) else (none)) else (none))) = some r := h
  clear h
  by_cases c2 : a0 > 1
  · rw [if_pos c2] at H
    have c2b0 : decide (1 < a0) = true := decide_eq_true c2
    clear c2
    replace H := Option.bind_eq_some_iff.mp H
    obtain ⟨t109, A30, H⟩ := H
    replace H : (if 2 + t109.size ≤ 9223372036854775807 then (if 2 + t109.size + 1 ≤ 9223372036854775807 then (some (((⟨#[27, 91]⟩ : ByteArray) ++ t109) ++ (⟨#[90]⟩ : ByteArray))) else (none)) else (none)) = some r := H
    have A3 := Aside0.mk A30
    clear A30
    by_cases c4 : 2 + t109.size ≤ 9223372036854775807
    · rw [if_pos c4] at H
      have c4b0 := eq_true c4
      have c4b1 : decide (2 + t109.size ≤ 9223372036854775807) = true := decide_eq_true c4
      try have c4b2 : (9223372036854775807 < 2 + t109.size) = False := eq_false (Nat.not_lt.2 c4)
      by_cases c5 : 2 + t109.size + 1 ≤ 9223372036854775807
      · rw [if_pos c5] at H
        have c5b0 := eq_true c5
        have c5b1 : decide (2 + t109.size + 1 ≤ 9223372036854775807) = true := decide_eq_true c5
        try have c5b2 : (9223372036854775807 < 2 + t109.size + 1) = False := eq_false (Nat.not_lt.2 c5)
        obtain rfl := Option.some.inj H
        go_enter Tryd.func45, Tryd.ntmps45
        go_wp2_with (first | ((with_reducible refine gate_callee (f := 109) rfl ?_); refine goesL_ (some 7) rfl rfl Tryd.func109 (by kernel_rfl) rfl #[.int .i64 a0] rfl (by (try simp only [List.map_toArray, List.map_cons, List.map_nil]); first | done | rfl | (simp only [List.length_drop, List.length_take]; rfl) | (simp [Act.eval, *]; done) | (simp [Act.eval, *]; unfold wrap64; omega)) ?_; (with_reducible refine (strconv_Itoa.calls a0 t109 _ ?side1 A3.out).mono ?_); (case side1 => exact HLD.out.below (by repeat (first | (with_reducible first | exact HB.out | apply below_alloc | apply Go.Proofs.YtplmmblofhhikaaDoor.Ext.below_bytes | apply pw_below_drewN | apply below_drew1) | exact HB.out))); rintro e w6 ⟨rfl, hb⟩; refine ⟨_, rfl, ?_⟩; have n0_ := Aside0.mk (below_step (by repeat (first | (with_reducible first | exact HB.out | apply below_alloc | apply Go.Proofs.YtplmmblofhhikaaDoor.Ext.below_bytes | apply pw_below_drewN | apply below_drew1) | exact HB.out)) hb); clear HB; have HB := n0_; clear n0_; (try clear hb); (try clear hb2); (try clear hk); (try clear hi)))
        go_ret
        exact ⟨by first | rfl | (simp [errW_none, errW_some] <;> rfl) | (simp [*, errW_none, errW_some] <;> rfl), by repeat (first | (with_reducible first | exact HB.out | apply below_alloc | apply Go.Proofs.YtplmmblofhhikaaDoor.Ext.below_bytes | apply pw_below_drewN | apply below_drew1) | exact HB.out)⟩
      · rw [if_neg c5] at H
        exact absurd H (by simp)
    · rw [if_neg c4] at H
      exact absurd H (by simp)
  · rw [if_neg c2] at H
    have c2b0 : decide (1 < a0) = false := decide_eq_false c2
    clear c2
    by_cases c7 : 2 + 0 ≤ 9223372036854775807
    · rw [if_pos c7] at H
      have c7b0 := eq_true c7
      have c7b1 : decide (2 + 0 ≤ 9223372036854775807) = true := decide_eq_true c7
      try have c7b2 : (9223372036854775807 < 2 + 0) = False := eq_false (Nat.not_lt.2 c7)
      by_cases c8 : 2 + 0 + 1 ≤ 9223372036854775807
      · rw [if_pos c8] at H
        have c8b0 := eq_true c8
        have c8b1 : decide (2 + 0 + 1 ≤ 9223372036854775807) = true := decide_eq_true c8
        try have c8b2 : (9223372036854775807 < 2 + 0 + 1) = False := eq_false (Nat.not_lt.2 c8)
        obtain rfl := Option.some.inj H
        go_enter Tryd.func45, Tryd.ntmps45
        go_wp2
        go_ret
        exact ⟨by first | rfl | (simp [errW_none, errW_some] <;> rfl) | (simp [*, errW_none, errW_some] <;> rfl), by repeat (first | (with_reducible first | exact HB.out | apply below_alloc | apply Go.Proofs.YtplmmblofhhikaaDoor.Ext.below_bytes | apply pw_below_drewN | apply below_drew1) | exact HB.out)⟩
      · rw [if_neg c8] at H
        exact absurd H (by simp)
    · rw [if_neg c7] at H
      exact absurd H (by simp)

/-! ### xansi_EraseCharacter: function 46 -/
def xansi_EraseCharacter.f (a0 : Int) : Option (ByteArray) := if a0 > 1 then ((strconv_Itoa.f a0).bind fun t110 => (if 2 + t110.size ≤ 9223372036854775807 then (if 2 + t110.size + 1 ≤ 9223372036854775807 then (some (((⟨#[27, 91]⟩ : ByteArray) ++ t110) ++ (⟨#[88]⟩ : ByteArray))) else (none)) else (none))) else (if 2 + 0 ≤ 9223372036854775807 then (if 2 + 0 + 1 ≤ 9223372036854775807 then (some (((⟨#[27, 91]⟩ : ByteArray) ++ (⟨#[]⟩ : ByteArray)) ++ (⟨#[88]⟩ : ByteArray))) else (none)) else (none))
set_option maxHeartbeats 8000000 in
set_option maxRecDepth 100000 in
theorem xansi_EraseCharacter.calls (a0 : Int) (r : ByteArray) (w : World) (hLD : Laid w) (h : xansi_EraseCharacter.f a0 = some r) :
    Calls Tryd.prog 46 #[.int .i64 a0] w fun e w' => e = .returned (.string r) ∧ Below w.heap.size w w' := by
  have HLD := Aside0.mk hLD
  clear hLD
  have HB := Aside0.mk (Below.refl w.heap.size w)
  have H : (if a0 > 1 then ((strconv_Itoa.f a0).bind fun t110 => (if 2 + t110.size ≤ 9223372036854775807 then (if 2 + t110.size + 1 ≤ 9223372036854775807 then (some (((⟨#[27, 91]⟩ : ByteArray) ++ t110) ++ (⟨#[88]⟩ : ByteArray))) else (none)) else (none))) else (if 2 + 0 ≤ 9223372036854775807 then (if 2 + 0 + 1 ≤ 9223372036854775807 then (some (((⟨#[27, 91]⟩ : ByteArray) ++ (⟨#[]⟩ : ByteArray)) ++ (⟨#[88]⟩ : ByteArray))) else (none)) else (none))) = some r := h
  clear h
  by_cases c2 : a0 > 1
  · rw [if_pos c2] at H
    have c2b0 : decide (1 < a0) = true := decide_eq_true c2
    clear c2
    replace H := Option.bind_eq_some_iff.mp H
    obtain ⟨t110, A30, H⟩ := H
    replace H : (if 2 + t110.size ≤ 9223372036854775807 then (if 2 + t110.size + 1 ≤ 9223372036854775807 then (some (((⟨#[27, 91]⟩ : ByteArray) ++ t110) ++ (⟨#[88]⟩ : ByteArray))) else (none)) else (none)) = some r := H
    have A3 := Aside0.mk A30
    clear A30
    by_cases c4 : 2 + t110.size ≤ 9223372036854775807
    · rw [if_pos c4] at H
      have c4b0 := eq_true c4
      have c4b1 : decide (2 + t110.size ≤ 9223372036854775807) = true := decide_eq_true c4
      try have c4b2 : (9223372036854775807 < 2 + t110.size) = False := eq_false (Nat.not_lt.2 c4)
      by_cases c5 : 2 + t110.size + 1 ≤ 9223372036854775807
      · rw [if_pos c5] at H
        have c5b0 := eq_true c5
        have c5b1 : decide (2 + t110.size + 1 ≤ 9223372036854775807) = true := decide_eq_true c5
        try have c5b2 : (9223372036854775807 < 2 + t110.size + 1) = False := eq_false (Nat.not_lt.2 c5)
        obtain rfl := Option.some.inj H
        go_enter Tryd.func46, Tryd.ntmps46
        go_wp2_with (first | ((with_reducible refine gate_callee (f := 109) rfl ?_); refine goesL_ (some 7) rfl rfl Tryd.func109 (by kernel_rfl) rfl #[.int .i64 a0] rfl (by (try simp only [List.map_toArray, List.map_cons, List.map_nil]); first | done | rfl | (simp only [List.length_drop, List.length_take]; rfl) | (simp [Act.eval, *]; done) | (simp [Act.eval, *]; unfold wrap64; omega)) ?_; (with_reducible refine (strconv_Itoa.calls a0 t110 _ ?side1 A3.out).mono ?_); (case side1 => exact HLD.out.below (by repeat (first | (with_reducible first | exact HB.out | apply below_alloc | apply Go.Proofs.YtplmmblofhhikaaDoor.Ext.below_bytes | apply pw_below_drewN | apply below_drew1) | exact HB.out))); rintro e w6 ⟨rfl, hb⟩; refine ⟨_, rfl, ?_⟩; have n0_ := Aside0.mk (below_step (by repeat (first | (with_reducible first | exact HB.out | apply below_alloc | apply Go.Proofs.YtplmmblofhhikaaDoor.Ext.below_bytes | apply pw_below_drewN | apply below_drew1) | exact HB.out)) hb); clear HB; have HB := n0_; clear n0_; (try clear hb); (try clear hb2); (try clear hk); (try clear hi)))
        go_ret
        exact ⟨by first | rfl | (simp [errW_none, errW_some] <;> rfl) | (simp [*, errW_none, errW_some] <;> rfl), by repeat (first | (with_reducible first | exact HB.out | apply below_alloc | apply Go.Proofs.YtplmmblofhhikaaDoor.Ext.below_bytes | apply pw_below_drewN | apply below_drew1) | exact HB.out)⟩
      · rw [if_neg c5] at H
        exact absurd H (by simp)
    · rw [if_neg c4] at H
      exact absurd H (by simp)
  · rw [if_neg c2] at H
    have c2b0 : decide (1 < a0) = false := decide_eq_false c2
    clear c2
    by_cases c7 : 2 + 0 ≤ 9223372036854775807
    · rw [if_pos c7] at H
      have c7b0 := eq_true c7
      have c7b1 : decide (2 + 0 ≤ 9223372036854775807) = true := decide_eq_true c7
      try have c7b2 : (9223372036854775807 < 2 + 0) = False := eq_false (Nat.not_lt.2 c7)
      by_cases c8 : 2 + 0 + 1 ≤ 9223372036854775807
      · rw [if_pos c8] at H
        have c8b0 := eq_true c8
        have c8b1 : decide (2 + 0 + 1 ≤ 9223372036854775807) = true := decide_eq_true c8
        try have c8b2 : (9223372036854775807 < 2 + 0 + 1) = False := eq_false (Nat.not_lt.2 c8)
        obtain rfl := Option.some.inj H
        go_enter Tryd.func46, Tryd.ntmps46
        go_wp2
        go_ret
        exact ⟨by first | rfl | (simp [errW_none, errW_some] <;> rfl) | (simp [*, errW_none, errW_some] <;> rfl), by repeat (first | (with_reducible first | exact HB.out | apply below_alloc | apply Go.Proofs.YtplmmblofhhikaaDoor.Ext.below_bytes | apply pw_below_drewN | apply below_drew1) | exact HB.out)⟩
      · rw [if_neg c8] at H
        exact absurd H (by simp)
    · rw [if_neg c7] at H
      exact absurd H (by simp)

/-! ### xansi_EraseDisplay: function 47 -/
def xansi_EraseDisplay.f (a0 : Int) : Option (ByteArray) := if a0 > 0 then ((strconv_Itoa.f a0).bind fun t111 => (if 2 + t111.size ≤ 9223372036854775807 then (if 2 + t111.size + 1 ≤ 9223372036854775807 then (some (((⟨#[27, 91]⟩ : ByteArray) ++ t111) ++ (⟨#[74]⟩ : ByteArray))) else (none)) else (none))) else (if 2 + 0 ≤ 9223372036854775807 then (if 2 + 0 + 1 ≤ 9223372036854775807 then (some (((⟨#[27, 91]⟩ : ByteArray) ++ (⟨#[]⟩ : ByteArray)) ++ (⟨#[74]⟩ : ByteArray))) else (none)) else (none))
set_option maxHeartbeats 8000000 in
set_option maxRecDepth 100000 in
theorem xansi_EraseDisplay.calls (a0 : Int) (r : ByteArray) (w : World) (hLD : Laid w) (h : xansi_EraseDisplay.f a0 = some r) :
    Calls Tryd.prog 47 #[.int .i64 a0] w fun e w' => e = .returned (.string r) ∧ Below w.heap.size w w' := by
  have HLD := Aside0.mk hLD
  clear hLD
  have HB := Aside0.mk (Below.refl w.heap.size w)
  have H : (if a0 > 0 then ((strconv_Itoa.f a0).bind fun t111 => (if 2 + t111.size ≤ 9223372036854775807 then (if 2 + t111.size + 1 ≤ 9223372036854775807 then (some (((⟨#[27, 91]⟩ : ByteArray) ++ t111) ++ (⟨#[74]⟩ : ByteArray))) else (none)) else (none))) else (if 2 + 0 ≤ 9223372036854775807 then (if 2 + 0 + 1 ≤ 9223372036854775807 then (some (((⟨#[27, 91]⟩ : ByteArray) ++ (⟨#[]⟩ : ByteArray)) ++ (⟨#[74]⟩ : ByteArray))) else (none)) else (none))) = some r := h
  clear h
  by_cases c2 : a0 > 0
  · rw [if_pos c2] at H
    have c2b0 : decide (0 < a0) = true := decide_eq_true c2
    clear c2
    replace H := Option.bind_eq_some_iff.mp H
    obtain ⟨t111, A30, H⟩ := H
    replace H : (if 2 + t111.size ≤ 9223372036854775807 then (if 2 + t111.size + 1 ≤ 9223372036854775807 then (some (((⟨#[27, 91]⟩ : ByteArray) ++ t111) ++ (⟨#[74]⟩ : ByteArray))) else (none)) else (none)) = some r := H
    have A3 := Aside0.mk A30
    clear A30
    by_cases c4 : 2 + t111.size ≤ 9223372036854775807
    · rw [if_pos c4] at H
      have c4b0 := eq_true c4
      have c4b1 : decide (2 + t111.size ≤ 9223372036854775807) = true := decide_eq_true c4
      try have c4b2 : (9223372036854775807 < 2 + t111.size) = False := eq_false (Nat.not_lt.2 c4)
      by_cases c5 : 2 + t111.size + 1 ≤ 9223372036854775807
      · rw [if_pos c5] at H
        have c5b0 := eq_true c5
        have c5b1 : decide (2 + t111.size + 1 ≤ 9223372036854775807) = true := decide_eq_true c5
        try have c5b2 : (9223372036854775807 < 2 + t111.size + 1) = False := eq_false (Nat.not_lt.2 c5)
        obtain rfl := Option.some.inj H
        go_enter Tryd.func47, Tryd.ntmps47
        go_wp2_with (first | ((with_reducible refine gate_callee (f := 109) rfl ?_); refine goesL_ (some 7) rfl rfl Tryd.func109 (by kernel_rfl) rfl #[.int .i64 a0] rfl (by (try simp only [List.map_toArray, List.map_cons, List.map_nil]); first | done | rfl | (simp only [List.length_drop, List.length_take]; rfl) | (simp [Act.eval, *]; done) | (simp [Act.eval, *]; unfold wrap64; omega)) ?_; (with_reducible refine (strconv_Itoa.calls a0 t111 _ ?side1 A3.out).mono ?_); (case side1 => exact HLD.out.below (by repeat (first | (with_reducible first | exact HB.out | apply below_alloc | apply Go.Proofs.YtplmmblofhhikaaDoor.Ext.below_bytes | apply pw_below_drewN | apply below_drew1) | exact HB.out))); rintro e w6 ⟨rfl, hb⟩; refine ⟨_, rfl, ?_⟩; have n0_ := Aside0.mk (below_step (by repeat (first | (with_reducible first | exact HB.out | apply below_alloc | apply Go.Proofs.YtplmmblofhhikaaDoor.Ext.below_bytes | apply pw_below_drewN | apply below_drew1) | exact HB.out)) hb); clear HB; have HB := n0_; clear n0_; (try clear hb); (try clear hb2); (try clear hk); (try clear hi)))
        go_ret
        exact ⟨by first | rfl | (simp [errW_none, errW_some] <;> rfl) | (simp [*, errW_none, errW_some] <;> rfl), by repeat (first | (with_reducible first | exact HB.out | apply below_alloc | apply Go.Proofs.YtplmmblofhhikaaDoor.Ext.below_bytes | apply pw_below_drewN | apply below_drew1) | exact HB.out)⟩
      · rw [if_neg c5] at H
        exact absurd H (by simp)
    · rw [if_neg c4] at H
      exact absurd H (by simp)
  · rw [if_neg c2] at H
    have c2b0 : decide (0 < a0) = false := decide_eq_false c2
    clear c2
    by_cases c7 : 2 + 0 ≤ 9223372036854775807
    · rw [if_pos c7] at H
      have c7b0 := eq_true c7
      have c7b1 : decide (2 + 0 ≤ 9223372036854775807) = true := decide_eq_true c7
      try have c7b2 : (9223372036854775807 < 2 + 0) = False := eq_false (Nat.not_lt.2 c7)
      by_cases c8 : 2 + 0 + 1 ≤ 9223372036854775807
      · rw [if_pos c8] at H
        have c8b0 := eq_true c8
        have c8b1 : decide (2 + 0 + 1 ≤ 9223372036854775807) = true := decide_eq_true c8
        try have c8b2 : (9223372036854775807 < 2 + 0 + 1) = False := eq_false (Nat.not_lt.2 c8)
        obtain rfl := Option.some.inj H
        go_enter Tryd.func47, Tryd.ntmps47
        go_wp2
        go_ret
        exact ⟨by first | rfl | (simp [errW_none, errW_some] <;> rfl) | (simp [*, errW_none, errW_some] <;> rfl), by repeat (first | (with_reducible first | exact HB.out | apply below_alloc | apply Go.Proofs.YtplmmblofhhikaaDoor.Ext.below_bytes | apply pw_below_drewN | apply below_drew1) | exact HB.out)⟩
      · rw [if_neg c8] at H
        exact absurd H (by simp)
    · rw [if_neg c7] at H
      exact absurd H (by simp)

/-! ### xansi_EraseLine: function 48 -/
def xansi_EraseLine.f (a0 : Int) : Option (ByteArray) := if a0 > 0 then ((strconv_Itoa.f a0).bind fun t112 => (if 2 + t112.size ≤ 9223372036854775807 then (if 2 + t112.size + 1 ≤ 9223372036854775807 then (some (((⟨#[27, 91]⟩ : ByteArray) ++ t112) ++ (⟨#[75]⟩ : ByteArray))) else (none)) else (none))) else (if 2 + 0 ≤ 9223372036854775807 then (if 2 + 0 + 1 ≤ 9223372036854775807 then (some (((⟨#[27, 91]⟩ : ByteArray) ++ (⟨#[]⟩ : ByteArray)) ++ (⟨#[75]⟩ : ByteArray))) else (none)) else (none))
set_option maxHeartbeats 8000000 in
set_option maxRecDepth 100000 in
theorem xansi_EraseLine.calls (a0 : Int) (r : ByteArray) (w : World) (hLD : Laid w) (h : xansi_EraseLine.f a0 = some r) :
    Calls Tryd.prog 48 #[.int .i64 a0] w fun e w' => e = .returned (.string r) ∧ Below w.heap.size w w' := by
  have HLD := Aside0.mk hLD
  clear hLD
  have HB := Aside0.mk (Below.refl w.heap.size w)
  have H : (if a0 > 0 then ((strconv_Itoa.f a0).bind fun t112 => (if 2 + t112.size ≤ 9223372036854775807 then (if 2 + t112.size + 1 ≤ 9223372036854775807 then (some (((⟨#[27, 91]⟩ : ByteArray) ++ t112) ++ (⟨#[75]⟩ : ByteArray))) else (none)) else (none))) else (if 2 + 0 ≤ 9223372036854775807 then (if 2 + 0 + 1 ≤ 9223372036854775807 then (some (((⟨#[27, 91]⟩ : ByteArray) ++ (⟨#[]⟩ : ByteArray)) ++ (⟨#[75]⟩ : ByteArray))) else (none)) else (none))) = some r := h
  clear h
  by_cases c2 : a0 > 0
  · rw [if_pos c2] at H
    have c2b0 : decide (0 < a0) = true := decide_eq_true c2
    clear c2
    replace H := Option.bind_eq_some_iff.mp H
    obtain ⟨t112, A30, H⟩ := H
    replace H : (if 2 + t112.size ≤ 9223372036854775807 then (if 2 + t112.size + 1 ≤ 9223372036854775807 then (some (((⟨#[27, 91]⟩ : ByteArray) ++ t112) ++ (⟨#[75]⟩ : ByteArray))) else (none)) else (none)) = some r := H
    have A3 := Aside0.mk A30
    clear A30
    by_cases c4 : 2 + t112.size ≤ 9223372036854775807
    · rw [if_pos c4] at H
      have c4b0 := eq_true c4
      have c4b1 : decide (2 + t112.size ≤ 9223372036854775807) = true := decide_eq_true c4
      try have c4b2 : (9223372036854775807 < 2 + t112.size) = False := eq_false (Nat.not_lt.2 c4)
      by_cases c5 : 2 + t112.size + 1 ≤ 9223372036854775807
      · rw [if_pos c5] at H
        have c5b0 := eq_true c5
        have c5b1 : decide (2 + t112.size + 1 ≤ 9223372036854775807) = true := decide_eq_true c5
        try have c5b2 : (9223372036854775807 < 2 + t112.size + 1) = False := eq_false (Nat.not_lt.2 c5)
        obtain rfl := Option.some.inj H
        go_enter Tryd.func48, Tryd.ntmps48
        go_wp2_with (first | ((with_reducible refine gate_callee (f := 109) rfl ?_); refine goesL_ (some 7) rfl rfl Tryd.func109 (by kernel_rfl) rfl #[.int .i64 a0] rfl (by (try simp only [List.map_toArray, List.map_cons, List.map_nil]); first | done | rfl | (simp only [List.length_drop, List.length_take]; rfl) | (simp [Act.eval, *]; done) | (simp [Act.eval, *]; unfold wrap64; omega)) ?_; (with_reducible refine (strconv_Itoa.calls a0 t112 _ ?side1 A3.out).mono ?_); (case side1 => exact HLD.out.below (by repeat (first | (with_reducible first | exact HB.out | apply below_alloc | apply Go.Proofs.YtplmmblofhhikaaDoor.Ext.below_bytes | apply pw_below_drewN | apply below_drew1) | exact HB.out))); rintro e w6 ⟨rfl, hb⟩; refine ⟨_, rfl, ?_⟩; have n0_ := Aside0.mk (below_step (by repeat (first | (with_reducible first | exact HB.out | apply below_alloc | apply Go.Proofs.YtplmmblofhhikaaDoor.Ext.below_bytes | apply pw_below_drewN | apply below_drew1) | exact HB.out)) hb); clear HB; have HB := n0_; clear n0_; (try clear hb); (try clear hb2); (try clear hk); (try clear hi)))
        go_ret
        exact ⟨by first | rfl | (simp [errW_none, errW_some] <;> rfl) | (simp [*, errW_none, errW_some] <;> rfl), by repeat (first | (with_reducible first | exact HB.out | apply below_alloc | apply Go.Proofs.YtplmmblofhhikaaDoor.Ext.below_bytes | apply pw_below_drewN | apply below_drew1) | exact HB.out)⟩
      · rw [if_neg c5] at H
        exact absurd H (by simp)
    · rw [if_neg c4] at H
      exact absurd H (by simp)
  · rw [if_neg c2] at H
    have c2b0 : decide (0 < a0) = false := decide_eq_false c2
    clear c2
    by_cases c7 : 2 + 0 ≤ 9223372036854775807
    · rw [if_pos c7] at H
      have c7b0 := eq_true c7
      have c7b1 : decide (2 + 0 ≤ 9223372036854775807) = true := decide_eq_true c7
      try have c7b2 : (9223372036854775807 < 2 + 0) = False := eq_false (Nat.not_lt.2 c7)
      by_cases c8 : 2 + 0 + 1 ≤ 9223372036854775807
      · rw [if_pos c8] at H
        have c8b0 := eq_true c8
        have c8b1 : decide (2 + 0 + 1 ≤ 9223372036854775807) = true := decide_eq_true c8
        try have c8b2 : (9223372036854775807 < 2 + 0 + 1) = False := eq_false (Nat.not_lt.2 c8)
        obtain rfl := Option.some.inj H
        go_enter Tryd.func48, Tryd.ntmps48
        go_wp2
        go_ret
        exact ⟨by first | rfl | (simp [errW_none, errW_some] <;> rfl) | (simp [*, errW_none, errW_some] <;> rfl), by repeat (first | (with_reducible first | exact HB.out | apply below_alloc | apply Go.Proofs.YtplmmblofhhikaaDoor.Ext.below_bytes | apply pw_below_drewN | apply below_drew1) | exact HB.out)⟩
      · rw [if_neg c8] at H
        exact absurd H (by simp)
    · rw [if_neg c7] at H
      exact absurd H (by simp)

/-! ### xansi_ScrollUp: function 49 -/
def xansi_ScrollUp.f (a0 : Int) : Option (ByteArray) := if a0 > 1 then ((strconv_Itoa.f a0).bind fun t113 => (if 2 + t113.size ≤ 9223372036854775807 then (if 2 + t113.size + 1 ≤ 9223372036854775807 then (some (((⟨#[27, 91]⟩ : ByteArray) ++ t113) ++ (⟨#[83]⟩ : ByteArray))) else (none)) else (none))) else (if 2 + 0 ≤ 9223372036854775807 then (if 2 + 0 + 1 ≤ 9223372036854775807 then (some (((⟨#[27, 91]⟩ : ByteArray) ++ (⟨#[]⟩ : ByteArray)) ++ (⟨#[83]⟩ : ByteArray))) else (none)) else (none))
set_option maxHeartbeats 8000000 in
set_option maxRecDepth 100000 in
theorem xansi_ScrollUp.calls (a0 : Int) (r : ByteArray) (w : World) (hLD : Laid w) (h : xansi_ScrollUp.f a0 = some r) :
    Calls Tryd.prog 49 #[.int .i64 a0] w fun e w' => e = .returned (.string r) ∧ Below w.heap.size w w' := by
  have HLD := Aside0.mk hLD
  clear hLD
  have HB := Aside0.mk (Below.refl w.heap.size w)
  have H : (if a0 > 1 then ((strconv_Itoa.f a0).bind fun t113 => (if 2 + t113.size ≤ 9223372036854775807 then (if 2 + t113.size + 1 ≤ 9223372036854775807 then (some (((⟨#[27, 91]⟩ : ByteArray) ++ t113) ++ (⟨#[83]⟩ : ByteArray))) else (none)) else (none))) else (if 2 + 0 ≤ 9223372036854775807 then (if 2 + 0 + 1 ≤ 9223372036854775807 then (some (((⟨#[27, 91]⟩ : ByteArray) ++ (⟨#[]⟩ : ByteArray)) ++ (⟨#[83]⟩ : ByteArray))) else (none)) else (none))) = some r := h
  clear h
  by_cases c2 : a0 > 1
  · rw [if_pos c2] at H
    have c2b0 : decide (1 < a0) = true := decide_eq_true c2
    clear c2
    replace H := Option.bind_eq_some_iff.mp H
    obtain ⟨t113, A30, H⟩ := H
    replace H : (if 2 + t113.size ≤ 9223372036854775807 then (if 2 + t113.size + 1 ≤ 9223372036854775807 then (some (((⟨#[27, 91]⟩ : ByteArray) ++ t113) ++ (⟨#[83]⟩ : ByteArray))) else (none)) else (none)) = some r := H
    have A3 := Aside0.mk A30
    clear A30
    by_cases c4 : 2 + t113.size ≤ 9223372036854775807
    · rw [if_pos c4] at H
      have c4b0 := eq_true c4
      have c4b1 : decide (2 + t113.size ≤ 9223372036854775807) = true := decide_eq_true c4
      try have c4b2 : (9223372036854775807 < 2 + t113.size) = False := eq_false (Nat.not_lt.2 c4)
      by_cases c5 : 2 + t113.size + 1 ≤ 9223372036854775807
      · rw [if_pos c5] at H
        have c5b0 := eq_true c5
        have c5b1 : decide (2 + t113.size + 1 ≤ 9223372036854775807) = true := decide_eq_true c5
        try have c5b2 : (9223372036854775807 < 2 + t113.size + 1) = False := eq_false (Nat.not_lt.2 c5)
        obtain rfl := Option.some.inj H
        go_enter Tryd.func49, Tryd.ntmps49
        go_wp2_with (first | ((with_reducible refine gate_callee (f := 109) rfl ?_); refine goesL_ (some 7) rfl rfl Tryd.func109 (by kernel_rfl) rfl #[.int .i64 a0] rfl (by (try simp only [List.map_toArray, List.map_cons, List.map_nil]); first | done | rfl | (simp only [List.length_drop, List.length_take]; rfl) | (simp [Act.eval, *]; done) | (simp [Act.eval, *]; unfold wrap64; omega)) ?_; (with_reducible refine (strconv_Itoa.calls a0 t113 _ ?side1 A3.out).mono ?_); (case side1 => exact HLD.out.below (by repeat (first | (with_reducible first | exact HB.out | apply below_alloc | apply Go.Proofs.YtplmmblofhhikaaDoor.Ext.below_bytes | apply pw_below_drewN | apply below_drew1) | exact HB.out))); rintro e w6 ⟨rfl, hb⟩; refine ⟨_, rfl, ?_⟩; have n0_ := Aside0.mk (below_step (by repeat (first | (with_reducible first | exact HB.out | apply below_alloc | apply Go.Proofs.YtplmmblofhhikaaDoor.Ext.below_bytes | apply pw_below_drewN | apply below_drew1) | exact HB.out)) hb); clear HB; have HB := n0_; clear n0_; (try clear hb); (try clear hb2); (try clear hk); (try clear hi)))
        go_ret
        exact ⟨by first | rfl | (simp [errW_none, errW_some] <;> rfl) | (simp [*, errW_none, errW_some] <;> rfl), by repeat (first | (with_reducible first | exact HB.out | apply below_alloc | apply Go.Proofs.YtplmmblofhhikaaDoor.Ext.below_bytes | apply pw_below_drewN | apply below_drew1) | exact HB.out)⟩
      · rw [if_neg c5] at H
        exact absurd H (by simp)
    · rw [if_neg c4] at H
      exact absurd H (by simp)
  · rw [if_neg c2] at H
    have c2b0 : decide (1 < a0) = false := decide_eq_false c2
    clear c2
    by_cases c7 : 2 + 0 ≤ 9223372036854775807
    · rw [if_pos c7] at H
      have c7b0 := eq_true c7
      have c7b1 : decide (2 + 0 ≤ 9223372036854775807) = true := decide_eq_true c7
      try have c7b2 : (9223372036854775807 < 2 + 0) = False := eq_false (Nat.not_lt.2 c7)
      by_cases c8 : 2 + 0 + 1 ≤ 9223372036854775807
      · rw [if_pos c8] at H
        have c8b0 := eq_true c8
        have c8b1 : decide (2 + 0 + 1 ≤ 9223372036854775807) = true := decide_eq_true c8
        try have c8b2 : (9223372036854775807 < 2 + 0 + 1) = False := eq_false (Nat.not_lt.2 c8)
        obtain rfl := Option.some.inj H
        go_enter Tryd.func49, Tryd.ntmps49
        go_wp2
        go_ret
        exact ⟨by first | rfl | (simp [errW_none, errW_some] <;> rfl) | (simp [*, errW_none, errW_some] <;> rfl), by repeat (first | (with_reducible first | exact HB.out | apply below_alloc | apply Go.Proofs.YtplmmblofhhikaaDoor.Ext.below_bytes | apply pw_below_drewN | apply below_drew1) | exact HB.out)⟩
      · rw [if_neg c8] at H
        exact absurd H (by simp)
    · rw [if_neg c7] at H
      exact absurd H (by simp)

/-! ### xansi_ScrollDown: function 50 -/
def xansi_ScrollDown.f (a0 : Int) : Option (ByteArray) := if a0 > 1 then ((strconv_Itoa.f a0).bind fun t114 => (if 2 + t114.size ≤ 9223372036854775807 then (if 2 + t114.size + 1 ≤ 9223372036854775807 then (some (((⟨#[27, 91]⟩ : ByteArray) ++ t114) ++ (⟨#[84]⟩ : ByteArray))) else (none)) else (none))) else (if 2 + 0 ≤ 9223372036854775807 then (if 2 + 0 + 1 ≤ 9223372036854775807 then (some (((⟨#[27, 91]⟩ : ByteArray) ++ (⟨#[]⟩ : ByteArray)) ++ (⟨#[84]⟩ : ByteArray))) else (none)) else (none))
set_option maxHeartbeats 8000000 in
set_option maxRecDepth 100000 in
theorem xansi_ScrollDown.calls (a0 : Int) (r : ByteArray) (w : World) (hLD : Laid w) (h : xansi_ScrollDown.f a0 = some r) :
    Calls Tryd.prog 50 #[.int .i64 a0] w fun e w' => e = .returned (.string r) ∧ Below w.heap.size w w' := by
  have HLD := Aside0.mk hLD
  clear hLD
  have HB := Aside0.mk (Below.refl w.heap.size w)
  have H : (if a0 > 1 then ((strconv_Itoa.f a0).bind fun t114 => (if 2 + t114.size ≤ 9223372036854775807 then (if 2 + t114.size + 1 ≤ 9223372036854775807 then (some (((⟨#[27, 91]⟩ : ByteArray) ++ t114) ++ (⟨#[84]⟩ : ByteArray))) else (none)) else (none))) else (if 2 + 0 ≤ 9223372036854775807 then (if 2 + 0 + 1 ≤ 9223372036854775807 then (some (((⟨#[27, 91]⟩ : ByteArray) ++ (⟨#[]⟩ : ByteArray)) ++ (⟨#[84]⟩ : ByteArray))) else (none)) else (none))) = some r := h
  clear h
  by_cases c2 : a0 > 1
  · rw [if_pos c2] at H
    have c2b0 : decide (1 < a0) = true := decide_eq_true c2
    clear c2
    replace H := Option.bind_eq_some_iff.mp H
    obtain ⟨t114, A30, H⟩ := H
    replace H : (if 2 + t114.size ≤ 9223372036854775807 then (if 2 + t114.size + 1 ≤ 9223372036854775807 then (some (((⟨#[27, 91]⟩ : ByteArray) ++ t114) ++ (⟨#[84]⟩ : ByteArray))) else (none)) else (none)) = some r := H
    have A3 := Aside0.mk A30
    clear A30
    by_cases c4 : 2 + t114.size ≤ 9223372036854775807
    · rw [if_pos c4] at H
      have c4b0 := eq_true c4
      have c4b1 : decide (2 + t114.size ≤ 9223372036854775807) = true := decide_eq_true c4
      try have c4b2 : (9223372036854775807 < 2 + t114.size) = False := eq_false (Nat.not_lt.2 c4)
      by_cases c5 : 2 + t114.size + 1 ≤ 9223372036854775807
      · rw [if_pos c5] at H
        have c5b0 := eq_true c5
        have c5b1 : decide (2 + t114.size + 1 ≤ 9223372036854775807) = true := decide_eq_true c5
        try have c5b2 : (9223372036854775807 < 2 + t114.size + 1) = False := eq_false (Nat.not_lt.2 c5)
        obtain rfl := Option.some.inj H
        go_enter Tryd.func50, Tryd.ntmps50
        go_wp2_with (first | ((with_reducible refine gate_callee (f := 109) rfl ?_); refine goesL_ (some 7) rfl rfl Tryd.func109 (by kernel_rfl) rfl #[.int .i64 a0] rfl (by (try simp only [List.map_toArray, List.map_cons, List.map_nil]); first | done | rfl | (simp only [List.length_drop, List.length_take]; rfl) | (simp [Act.eval, *]; done) | (simp [Act.eval, *]; unfold wrap64; omega)) ?_; (with_reducible refine (strconv_Itoa.calls a0 t114 _ ?side1 A3.out).mono ?_); (case side1 => exact HLD.out.below (by repeat (first | (with_reducible first | exact HB.out | apply below_alloc | apply Go.Proofs.YtplmmblofhhikaaDoor.Ext.below_bytes | apply pw_below_drewN | apply below_drew1) | exact HB.out))); rintro e w6 ⟨rfl, hb⟩; refine ⟨_, rfl, ?_⟩; have n0_ := Aside0.mk (below_step (by repeat (first | (with_reducible first | exact HB.out | apply below_alloc | apply Go.Proofs.YtplmmblofhhikaaDoor.Ext.below_bytes | apply pw_below_drewN | apply below_drew1) | exact HB.out)) hb); clear HB; have HB := n0_; clear n0_; (try clear hb); (try clear hb2); (try clear hk); (try clear hi)))
        go_ret
        exact ⟨by first | rfl | (simp [errW_none, errW_some] <;> rfl) | (simp [*, errW_none, errW_some] <;> rfl), by repeat (first | (with_reducible first | exact HB.out | apply below_alloc | apply Go.Proofs.YtplmmblofhhikaaDoor.Ext.below_bytes | apply pw_below_drewN | apply below_drew1) | exact HB.out)⟩
      · rw [if_neg c5] at H
        exact absurd H (by simp)
    · rw [if_neg c4] at H
      exact absurd H (by simp)
  · rw [if_neg c2] at H
    have c2b0 : decide (1 < a0) = false := decide_eq_false c2
    clear c2
    by_cases c7 : 2 + 0 ≤ 9223372036854775807
    · rw [if_pos c7] at H
      have c7b0 := eq_true c7
      have c7b1 : decide (2 + 0 ≤ 9223372036854775807) = true := decide_eq_true c7
      try have c7b2 : (9223372036854775807 < 2 + 0) = False := eq_false (Nat.not_lt.2 c7)
      by_cases c8 : 2 + 0 + 1 ≤ 9223372036854775807
      · rw [if_pos c8] at H
        have c8b0 := eq_true c8
        have c8b1 : decide (2 + 0 + 1 ≤ 9223372036854775807) = true := decide_eq_true c8
        try have c8b2 : (9223372036854775807 < 2 + 0 + 1) = False := eq_false (Nat.not_lt.2 c8)
        obtain rfl := Option.some.inj H
        go_enter Tryd.func50, Tryd.ntmps50
        go_wp2
        go_ret
        exact ⟨by first | rfl | (simp [errW_none, errW_some] <;> rfl) | (simp [*, errW_none, errW_some] <;> rfl), by repeat (first | (with_reducible first | exact HB.out | apply below_alloc | apply Go.Proofs.YtplmmblofhhikaaDoor.Ext.below_bytes | apply pw_below_drewN | apply below_drew1) | exact HB.out)⟩
      · rw [if_neg c8] at H
        exact absurd H (by simp)
    · rw [if_neg c7] at H
      exact absurd H (by simp)

end Go.Proofs.YtplmmblofhhikaaDoor.PU
