-- Written by wip/pp.py, a program of this session, out of the translation. Not trusted: Lean checks it.
import Derived.Test.YtjjkagjdbjpikaaDoorPXx0
import Derived.Test.YtjjkagjdbjpikaaDoorPXx9
namespace Go.Proofs.YtjjkagjdbjpikaaDoor.PX
open Go.RowKit Go.Proofs.YtjjkagjdbjpikaaDoor.Or Go.Proofs.YtjjkagjdbjpikaaDoorW.PrintWords Go.Proofs.YtjjkagjdbjpikaaDoorW.PrintLast Go.Proofs.YtjjkagjdbjpikaaDoorW.PrintMore
attribute [local go_sem] max2_int min2_int max_two min_two max_three min_three max_four min_four   -- for this text's walks alone
attribute [local go_sem] Go.Proofs.YtjjkagjdbjpikaaDoor.Ext.wrap64_mod256 Go.Proofs.YtjjkagjdbjpikaaDoor.Ext.wrap64_mod32 Go.Proofs.YtjjkagjdbjpikaaDoor.Ext.i64_mod256 Go.Proofs.YtjjkagjdbjpikaaDoor.Ext.i64_mod32 Go.Proofs.YtjjkagjdbjpikaaDoor.Ext.i64_u8 Go.Proofs.YtjjkagjdbjpikaaDoor.Ext.w64_u8 Go.Proofs.YtjjkagjdbjpikaaDoor.Ext.i64_u32 Go.Proofs.YtjjkagjdbjpikaaDoor.Ext.w64_u32 
set_option linter.unusedVariables false
set_option linter.unusedSimpArgs false

/-! ### xansi_SetClipboard: function 45 -/
def xansi_SetClipboard.f (k : Nat) (a0 : Int) (a1 : ByteArray) : Option (ByteArray) := if a1.toList = ([] : List UInt8) then (if 5 + (Utf8.encode a0).size ≤ 9223372036854775807 then (if 5 + (Utf8.encode a0).size + 1 ≤ 9223372036854775807 then (if 5 + (Utf8.encode a0).size + 1 + a1.size ≤ 9223372036854775807 then (if 5 + (Utf8.encode a0).size + 1 + a1.size + 1 ≤ 9223372036854775807 then (some (((((⟨#[27, 93, 53, 50, 59]⟩ : ByteArray) ++ (Utf8.encode a0)) ++ (⟨#[59]⟩ : ByteArray)) ++ a1) ++ (⟨#[7]⟩ : ByteArray))) else (none)) else (none)) else (none)) else (none)) else ((xansi_zzBase64.f k a1).bind fun t290 => (if 5 + (Utf8.encode a0).size ≤ 9223372036854775807 then (if 5 + (Utf8.encode a0).size + 1 ≤ 9223372036854775807 then (if 5 + (Utf8.encode a0).size + 1 + t290.size ≤ 9223372036854775807 then (if 5 + (Utf8.encode a0).size + 1 + t290.size + 1 ≤ 9223372036854775807 then (some (((((⟨#[27, 93, 53, 50, 59]⟩ : ByteArray) ++ (Utf8.encode a0)) ++ (⟨#[59]⟩ : ByteArray)) ++ t290) ++ (⟨#[7]⟩ : ByteArray))) else (none)) else (none)) else (none)) else (none)))
theorem xansi_SetClipboard.mono : ∀ a0 a1 k, LeO (xansi_SetClipboard.f k a0 a1) (xansi_SetClipboard.f (k + 1) a0 a1) := by
  intro a0 a1 k
  unfold xansi_SetClipboard.f
  repeat' first
      | (with_reducible exact xansi_zzBase64.mono _ _)
      | (with_reducible exact LeO.refl _)
      | (with_reducible exact LeO.none _)
      | (with_reducible refine LeO.ite ?_ ?_)
      | (with_reducible refine LeO.bind ?_ (fun _ => ?_))
      | exact xansi_zzBase64.mono _ _
      | exact LeO.none _
      | refine LeO.ite ?_ ?_
      | refine LeO.bind ?_ (fun _ => ?_)
set_option maxHeartbeats 8000000 in
set_option maxRecDepth 100000 in
theorem xansi_SetClipboard.calls (k : Nat) (a0 : Int) (a1 : ByteArray) (r : ByteArray) (w : World) (h : xansi_SetClipboard.f k a0 a1 = some r) :
    Calls Tryd.prog 45 #[.int .u8 a0, .string a1] w fun e w' => e = .returned (.string r) ∧ Below w.heap.size w w' := by
  have HB := Aside0.mk (Below.refl w.heap.size w)
  have H : (if a1.toList = ([] : List UInt8) then (if 5 + (Utf8.encode a0).size ≤ 9223372036854775807 then (if 5 + (Utf8.encode a0).size + 1 ≤ 9223372036854775807 then (if 5 + (Utf8.encode a0).size + 1 + a1.size ≤ 9223372036854775807 then (if 5 + (Utf8.encode a0).size + 1 + a1.size + 1 ≤ 9223372036854775807 then (some (((((⟨#[27, 93, 53, 50, 59]⟩ : ByteArray) ++ (Utf8.encode a0)) ++ (⟨#[59]⟩ : ByteArray)) ++ a1) ++ (⟨#[7]⟩ : ByteArray))) else (none)) else (none)) else (none)) else (none)) else ((xansi_zzBase64.f k a1).bind fun t290 => (if 5 + (Utf8.encode a0).size ≤ 9223372036854775807 then (if 5 + (Utf8.encode a0).size + 1 ≤ 9223372036854775807 then (if 5 + (Utf8.encode a0).size + 1 + t290.size ≤ 9223372036854775807 then (if 5 + (Utf8.encode a0).size + 1 + t290.size + 1 ≤ 9223372036854775807 then (some (((((⟨#[27, 93, 53, 50, 59]⟩ : ByteArray) ++ (Utf8.encode a0)) ++ (⟨#[59]⟩ : ByteArray)) ++ t290) ++ (⟨#[7]⟩ : ByteArray))) else (none)) else (none)) else (none)) else (none)))) = some r := h
  clear h
  by_cases c3 : a1.toList = ([] : List UInt8)
  · rw [if_pos c3] at H
    have c3b0 : (a1.toList == ([] : List UInt8)) = true := beq_iff_eq.mpr c3
    have c3b1 : (a1.toList != ([] : List UInt8)) = false := bne_eq_false_iff_eq.mpr c3
    clear c3
    by_cases c4 : 5 + (Utf8.encode a0).size ≤ 9223372036854775807
    · rw [if_pos c4] at H
      have c4b0 := eq_true c4
      have c4b1 : decide (5 + (Utf8.encode a0).size ≤ 9223372036854775807) = true := decide_eq_true c4
      try have c4b2 : (9223372036854775807 < 5 + (Utf8.encode a0).size) = False := eq_false (Nat.not_lt.2 c4)
      by_cases c5 : 5 + (Utf8.encode a0).size + 1 ≤ 9223372036854775807
      · rw [if_pos c5] at H
        have c5b0 := eq_true c5
        have c5b1 : decide (5 + (Utf8.encode a0).size + 1 ≤ 9223372036854775807) = true := decide_eq_true c5
        try have c5b2 : (9223372036854775807 < 5 + (Utf8.encode a0).size + 1) = False := eq_false (Nat.not_lt.2 c5)
        by_cases c6 : 5 + (Utf8.encode a0).size + 1 + a1.size ≤ 9223372036854775807
        · rw [if_pos c6] at H
          have c6b0 := eq_true c6
          have c6b1 : decide (5 + (Utf8.encode a0).size + 1 + a1.size ≤ 9223372036854775807) = true := decide_eq_true c6
          try have c6b2 : (9223372036854775807 < 5 + (Utf8.encode a0).size + 1 + a1.size) = False := eq_false (Nat.not_lt.2 c6)
          by_cases c7 : 5 + (Utf8.encode a0).size + 1 + a1.size + 1 ≤ 9223372036854775807
          · rw [if_pos c7] at H
            have c7b0 := eq_true c7
            have c7b1 : decide (5 + (Utf8.encode a0).size + 1 + a1.size + 1 ≤ 9223372036854775807) = true := decide_eq_true c7
            try have c7b2 : (9223372036854775807 < 5 + (Utf8.encode a0).size + 1 + a1.size + 1) = False := eq_false (Nat.not_lt.2 c7)
            obtain rfl := Option.some.inj H
            go_enter Tryd.func45, Tryd.ntmps45
            go_wp2
            go_ret
            exact ⟨by first | rfl | (simp [errW_none, errW_some] <;> rfl) | (simp [*, errW_none, errW_some] <;> rfl), by repeat (first | (with_reducible first | exact HB.out | apply below_alloc | apply Go.Proofs.YtjjkagjdbjpikaaDoor.Ext.below_bytes | apply pw_below_drewN | apply below_drew1) | exact HB.out)⟩
          · rw [if_neg c7] at H
            exact absurd H (by simp)
        · rw [if_neg c6] at H
          exact absurd H (by simp)
      · rw [if_neg c5] at H
        exact absurd H (by simp)
    · rw [if_neg c4] at H
      exact absurd H (by simp)
  · rw [if_neg c3] at H
    have c3b0 : (a1.toList == ([] : List UInt8)) = false := beq_eq_false_iff_ne.mpr c3
    have c3b1 : (a1.toList != ([] : List UInt8)) = true := bne_iff_ne.mpr c3
    replace H := Option.bind_eq_some_iff.mp H
    obtain ⟨t290, A80, H⟩ := H
    replace H : (if 5 + (Utf8.encode a0).size ≤ 9223372036854775807 then (if 5 + (Utf8.encode a0).size + 1 ≤ 9223372036854775807 then (if 5 + (Utf8.encode a0).size + 1 + t290.size ≤ 9223372036854775807 then (if 5 + (Utf8.encode a0).size + 1 + t290.size + 1 ≤ 9223372036854775807 then (some (((((⟨#[27, 93, 53, 50, 59]⟩ : ByteArray) ++ (Utf8.encode a0)) ++ (⟨#[59]⟩ : ByteArray)) ++ t290) ++ (⟨#[7]⟩ : ByteArray))) else (none)) else (none)) else (none)) else (none)) = some r := H
    have A8 := Aside0.mk A80
    clear A80
    by_cases c9 : 5 + (Utf8.encode a0).size ≤ 9223372036854775807
    · rw [if_pos c9] at H
      have c9b0 := eq_true c9
      have c9b1 : decide (5 + (Utf8.encode a0).size ≤ 9223372036854775807) = true := decide_eq_true c9
      try have c9b2 : (9223372036854775807 < 5 + (Utf8.encode a0).size) = False := eq_false (Nat.not_lt.2 c9)
      by_cases c10 : 5 + (Utf8.encode a0).size + 1 ≤ 9223372036854775807
      · rw [if_pos c10] at H
        have c10b0 := eq_true c10
        have c10b1 : decide (5 + (Utf8.encode a0).size + 1 ≤ 9223372036854775807) = true := decide_eq_true c10
        try have c10b2 : (9223372036854775807 < 5 + (Utf8.encode a0).size + 1) = False := eq_false (Nat.not_lt.2 c10)
        by_cases c11 : 5 + (Utf8.encode a0).size + 1 + t290.size ≤ 9223372036854775807
        · rw [if_pos c11] at H
          have c11b0 := eq_true c11
          have c11b1 : decide (5 + (Utf8.encode a0).size + 1 + t290.size ≤ 9223372036854775807) = true := decide_eq_true c11
          try have c11b2 : (9223372036854775807 < 5 + (Utf8.encode a0).size + 1 + t290.size) = False := eq_false (Nat.not_lt.2 c11)
          by_cases c12 : 5 + (Utf8.encode a0).size + 1 + t290.size + 1 ≤ 9223372036854775807
          · rw [if_pos c12] at H
            have c12b0 := eq_true c12
            have c12b1 : decide (5 + (Utf8.encode a0).size + 1 + t290.size + 1 ≤ 9223372036854775807) = true := decide_eq_true c12
            try have c12b2 : (9223372036854775807 < 5 + (Utf8.encode a0).size + 1 + t290.size + 1) = False := eq_false (Nat.not_lt.2 c12)
            obtain rfl := Option.some.inj H
            go_enter Tryd.func45, Tryd.ntmps45
            go_wp2_with (first | ((with_reducible refine gate_callee (f := 103) rfl ?_); refine goesL_ (some 8) rfl rfl Tryd.func103 (by kernel_rfl) rfl #[.string a1] rfl (by (try simp only [List.map_toArray, List.map_cons, List.map_nil]); first | done | rfl | (simp only [List.length_drop, List.length_take]; rfl) | (simp [Act.eval, *]; done)) ?_; (with_reducible refine (xansi_zzBase64.calls k a1 t290 _ A8.out).mono ?_); rintro e w13 ⟨rfl, hb⟩; refine ⟨_, rfl, ?_⟩; have n0_ := Aside0.mk (below_step (by repeat (first | (with_reducible first | exact HB.out | apply below_alloc | apply Go.Proofs.YtjjkagjdbjpikaaDoor.Ext.below_bytes | apply pw_below_drewN | apply below_drew1) | exact HB.out)) hb); clear HB; have HB := n0_; clear n0_; (try clear hb); (try clear hb2); (try clear hk); (try clear hi)))
            go_ret
            exact ⟨by first | rfl | (simp [errW_none, errW_some] <;> rfl) | (simp [*, errW_none, errW_some] <;> rfl), by repeat (first | (with_reducible first | exact HB.out | apply below_alloc | apply Go.Proofs.YtjjkagjdbjpikaaDoor.Ext.below_bytes | apply pw_below_drewN | apply below_drew1) | exact HB.out)⟩
          · rw [if_neg c12] at H
            exact absurd H (by simp)
        · rw [if_neg c11] at H
          exact absurd H (by simp)
      · rw [if_neg c10] at H
        exact absurd H (by simp)
    · rw [if_neg c9] at H
      exact absurd H (by simp)

/-! ### xansi_RequestClipboard: function 46 -/
def xansi_RequestClipboard.f (a0 : Int) : Option (ByteArray) := if 5 + (Utf8.encode a0).size ≤ 9223372036854775807 then (if 5 + (Utf8.encode a0).size + 3 ≤ 9223372036854775807 then (some (((⟨#[27, 93, 53, 50, 59]⟩ : ByteArray) ++ (Utf8.encode a0)) ++ (⟨#[59, 63, 7]⟩ : ByteArray))) else (none)) else (none)
set_option maxHeartbeats 8000000 in
set_option maxRecDepth 100000 in
theorem xansi_RequestClipboard.calls (a0 : Int) (r : ByteArray) (w : World) (h : xansi_RequestClipboard.f a0 = some r) :
    Calls Tryd.prog 46 #[.int .u8 a0] w fun e w' => e = .returned (.string r) ∧ Drawn0 w w' := by
  have H : (if 5 + (Utf8.encode a0).size ≤ 9223372036854775807 then (if 5 + (Utf8.encode a0).size + 3 ≤ 9223372036854775807 then (some (((⟨#[27, 93, 53, 50, 59]⟩ : ByteArray) ++ (Utf8.encode a0)) ++ (⟨#[59, 63, 7]⟩ : ByteArray))) else (none)) else (none)) = some r := h
  clear h
  by_cases c2 : 5 + (Utf8.encode a0).size ≤ 9223372036854775807
  · rw [if_pos c2] at H
    have c2b0 := eq_true c2
    have c2b1 : decide (5 + (Utf8.encode a0).size ≤ 9223372036854775807) = true := decide_eq_true c2
    try have c2b2 : (9223372036854775807 < 5 + (Utf8.encode a0).size) = False := eq_false (Nat.not_lt.2 c2)
    by_cases c3 : 5 + (Utf8.encode a0).size + 3 ≤ 9223372036854775807
    · rw [if_pos c3] at H
      have c3b0 := eq_true c3
      have c3b1 : decide (5 + (Utf8.encode a0).size + 3 ≤ 9223372036854775807) = true := decide_eq_true c3
      try have c3b2 : (9223372036854775807 < 5 + (Utf8.encode a0).size + 3) = False := eq_false (Nat.not_lt.2 c3)
      obtain rfl := Option.some.inj H
      go_enter Tryd.func46, Tryd.ntmps46
      go_wp2
      go_ret
      exact ⟨by first | rfl | (simp; done) | (simp [*]; done), by repeat (first | exact Drawn0.refl _ | apply Drawn0.step)⟩
    · rw [if_neg c3] at H
      exact absurd H (by simp)
  · rw [if_neg c2] at H
    exact absurd H (by simp)

/-! ### xansi_ResetClipboard: function 47 -/
def xansi_ResetClipboard.f (k : Nat) (a0 : Int) : Option (ByteArray) := (xansi_SetClipboard.f k a0 (⟨#[]⟩ : ByteArray)).bind fun t291 => (some t291)
theorem xansi_ResetClipboard.mono : ∀ a0 k, LeO (xansi_ResetClipboard.f k a0) (xansi_ResetClipboard.f (k + 1) a0) := by
  intro a0 k
  unfold xansi_ResetClipboard.f
  repeat' first
      | (with_reducible exact xansi_SetClipboard.mono _ _ _)
      | (with_reducible exact LeO.refl _)
      | (with_reducible exact LeO.none _)
      | (with_reducible refine LeO.ite ?_ ?_)
      | (with_reducible refine LeO.bind ?_ (fun _ => ?_))
      | exact xansi_SetClipboard.mono _ _ _
      | exact LeO.none _
      | refine LeO.ite ?_ ?_
      | refine LeO.bind ?_ (fun _ => ?_)
set_option maxHeartbeats 8000000 in
set_option maxRecDepth 100000 in
theorem xansi_ResetClipboard.calls (k : Nat) (a0 : Int) (r : ByteArray) (w : World) (h : xansi_ResetClipboard.f k a0 = some r) :
    Calls Tryd.prog 47 #[.int .u8 a0] w fun e w' => e = .returned (.string r) ∧ Below w.heap.size w w' := by
  have HB := Aside0.mk (Below.refl w.heap.size w)
  have H : ((xansi_SetClipboard.f k a0 (⟨#[]⟩ : ByteArray)).bind fun t291 => (some t291)) = some r := h
  clear h
  replace H := Option.bind_eq_some_iff.mp H
  obtain ⟨t291, A20, H⟩ := H
  replace H : (some t291) = some r := H
  have A2 := Aside0.mk A20
  clear A20
  obtain rfl := Option.some.inj H
  go_enter Tryd.func47, Tryd.ntmps47
  go_wp2_with (first | ((with_reducible refine gate_callee (f := 45) rfl ?_); refine goesL_ (some 4) rfl rfl Tryd.func45 (by kernel_rfl) rfl #[.int .u8 a0, .string (⟨#[]⟩ : ByteArray)] rfl (by (try simp only [List.map_toArray, List.map_cons, List.map_nil]); first | done | rfl | (simp only [List.length_drop, List.length_take]; rfl) | (simp [Act.eval, *]; done)) ?_; (with_reducible refine (xansi_SetClipboard.calls k a0 (⟨#[]⟩ : ByteArray) t291 _ A2.out).mono ?_); rintro e w3 ⟨rfl, hb⟩; refine ⟨_, rfl, ?_⟩; have n0_ := Aside0.mk (below_step (by repeat (first | (with_reducible first | exact HB.out | apply below_alloc | apply Go.Proofs.YtjjkagjdbjpikaaDoor.Ext.below_bytes | apply pw_below_drewN | apply below_drew1) | exact HB.out)) hb); clear HB; have HB := n0_; clear n0_; (try clear hb); (try clear hb2); (try clear hk); (try clear hi)))
  go_ret
  exact ⟨by first | rfl | (simp [errW_none, errW_some] <;> rfl) | (simp [*, errW_none, errW_some] <;> rfl), by repeat (first | (with_reducible first | exact HB.out | apply below_alloc | apply Go.Proofs.YtjjkagjdbjpikaaDoor.Ext.below_bytes | apply pw_below_drewN | apply below_drew1) | exact HB.out)⟩

/-! ### xansi_SetSystemClipboard: function 48 -/
def xansi_SetSystemClipboard.f (k : Nat) (a0 : ByteArray) : Option (ByteArray) := (xansi_SetClipboard.f k 99 a0).bind fun t292 => (some t292)
theorem xansi_SetSystemClipboard.mono : ∀ a0 k, LeO (xansi_SetSystemClipboard.f k a0) (xansi_SetSystemClipboard.f (k + 1) a0) := by
  intro a0 k
  unfold xansi_SetSystemClipboard.f
  repeat' first
      | (with_reducible exact xansi_SetClipboard.mono _ _ _)
      | (with_reducible exact LeO.refl _)
      | (with_reducible exact LeO.none _)
      | (with_reducible refine LeO.ite ?_ ?_)
      | (with_reducible refine LeO.bind ?_ (fun _ => ?_))
      | exact xansi_SetClipboard.mono _ _ _
      | exact LeO.none _
      | refine LeO.ite ?_ ?_
      | refine LeO.bind ?_ (fun _ => ?_)
set_option maxHeartbeats 8000000 in
set_option maxRecDepth 100000 in
theorem xansi_SetSystemClipboard.calls (k : Nat) (a0 : ByteArray) (r : ByteArray) (w : World) (h : xansi_SetSystemClipboard.f k a0 = some r) :
    Calls Tryd.prog 48 #[.string a0] w fun e w' => e = .returned (.string r) ∧ Below w.heap.size w w' := by
  have HB := Aside0.mk (Below.refl w.heap.size w)
  have H : ((xansi_SetClipboard.f k 99 a0).bind fun t292 => (some t292)) = some r := h
  clear h
  replace H := Option.bind_eq_some_iff.mp H
  obtain ⟨t292, A20, H⟩ := H
  replace H : (some t292) = some r := H
  have A2 := Aside0.mk A20
  clear A20
  obtain rfl := Option.some.inj H
  go_enter Tryd.func48, Tryd.ntmps48
  go_wp2_with (first | ((with_reducible refine gate_callee (f := 45) rfl ?_); refine goesL_ (some 4) rfl rfl Tryd.func45 (by kernel_rfl) rfl #[.int .u8 99, .string a0] rfl (by (try simp only [List.map_toArray, List.map_cons, List.map_nil]); first | done | rfl | (simp only [List.length_drop, List.length_take]; rfl) | (simp [Act.eval, *]; done)) ?_; (with_reducible refine (xansi_SetClipboard.calls k 99 a0 t292 _ A2.out).mono ?_); rintro e w3 ⟨rfl, hb⟩; refine ⟨_, rfl, ?_⟩; have n0_ := Aside0.mk (below_step (by repeat (first | (with_reducible first | exact HB.out | apply below_alloc | apply Go.Proofs.YtjjkagjdbjpikaaDoor.Ext.below_bytes | apply pw_below_drewN | apply below_drew1) | exact HB.out)) hb); clear HB; have HB := n0_; clear n0_; (try clear hb); (try clear hb2); (try clear hk); (try clear hi)))
  go_ret
  exact ⟨by first | rfl | (simp [errW_none, errW_some] <;> rfl) | (simp [*, errW_none, errW_some] <;> rfl), by repeat (first | (with_reducible first | exact HB.out | apply below_alloc | apply Go.Proofs.YtjjkagjdbjpikaaDoor.Ext.below_bytes | apply pw_below_drewN | apply below_drew1) | exact HB.out)⟩

/-! ### xansi_SetPrimaryClipboard: function 49 -/
def xansi_SetPrimaryClipboard.f (k : Nat) (a0 : ByteArray) : Option (ByteArray) := (xansi_SetClipboard.f k 112 a0).bind fun t293 => (some t293)
theorem xansi_SetPrimaryClipboard.mono : ∀ a0 k, LeO (xansi_SetPrimaryClipboard.f k a0) (xansi_SetPrimaryClipboard.f (k + 1) a0) := by
  intro a0 k
  unfold xansi_SetPrimaryClipboard.f
  repeat' first
      | (with_reducible exact xansi_SetClipboard.mono _ _ _)
      | (with_reducible exact LeO.refl _)
      | (with_reducible exact LeO.none _)
      | (with_reducible refine LeO.ite ?_ ?_)
      | (with_reducible refine LeO.bind ?_ (fun _ => ?_))
      | exact xansi_SetClipboard.mono _ _ _
      | exact LeO.none _
      | refine LeO.ite ?_ ?_
      | refine LeO.bind ?_ (fun _ => ?_)
set_option maxHeartbeats 8000000 in
set_option maxRecDepth 100000 in
theorem xansi_SetPrimaryClipboard.calls (k : Nat) (a0 : ByteArray) (r : ByteArray) (w : World) (h : xansi_SetPrimaryClipboard.f k a0 = some r) :
    Calls Tryd.prog 49 #[.string a0] w fun e w' => e = .returned (.string r) ∧ Below w.heap.size w w' := by
  have HB := Aside0.mk (Below.refl w.heap.size w)
  have H : ((xansi_SetClipboard.f k 112 a0).bind fun t293 => (some t293)) = some r := h
  clear h
  replace H := Option.bind_eq_some_iff.mp H
  obtain ⟨t293, A20, H⟩ := H
  replace H : (some t293) = some r := H
  have A2 := Aside0.mk A20
  clear A20
  obtain rfl := Option.some.inj H
  go_enter Tryd.func49, Tryd.ntmps49
  go_wp2_with (first | ((with_reducible refine gate_callee (f := 45) rfl ?_); refine goesL_ (some 4) rfl rfl Tryd.func45 (by kernel_rfl) rfl #[.int .u8 112, .string a0] rfl (by (try simp only [List.map_toArray, List.map_cons, List.map_nil]); first | done | rfl | (simp only [List.length_drop, List.length_take]; rfl) | (simp [Act.eval, *]; done)) ?_; (with_reducible refine (xansi_SetClipboard.calls k 112 a0 t293 _ A2.out).mono ?_); rintro e w3 ⟨rfl, hb⟩; refine ⟨_, rfl, ?_⟩; have n0_ := Aside0.mk (below_step (by repeat (first | (with_reducible first | exact HB.out | apply below_alloc | apply Go.Proofs.YtjjkagjdbjpikaaDoor.Ext.below_bytes | apply pw_below_drewN | apply below_drew1) | exact HB.out)) hb); clear HB; have HB := n0_; clear n0_; (try clear hb); (try clear hb2); (try clear hk); (try clear hi)))
  go_ret
  exact ⟨by first | rfl | (simp [errW_none, errW_some] <;> rfl) | (simp [*, errW_none, errW_some] <;> rfl), by repeat (first | (with_reducible first | exact HB.out | apply below_alloc | apply Go.Proofs.YtjjkagjdbjpikaaDoor.Ext.below_bytes | apply pw_below_drewN | apply below_drew1) | exact HB.out)⟩

/-! ### impl_MakeClipboard: function 17 -/
def impl_MakeClipboard.f (k : Nat) (a0 : Int) (a1 : Int) (a2 : ByteArray) : Option (ByteArray) := if a0 = 0 then ((xansi_SetClipboard.f k a1 a2).bind fun t294 => (some t294)) else (if a0 = 1 then ((xansi_RequestClipboard.f a1).bind fun t295 => (some t295)) else (if a0 = 2 then ((xansi_ResetClipboard.f k a1).bind fun t296 => (some t296)) else (if a0 = 3 then ((xansi_SetSystemClipboard.f k a2).bind fun t297 => (some t297)) else (if a0 = 4 then ((xansi_SetPrimaryClipboard.f k a2).bind fun t298 => (some t298)) else (some (⟨#[]⟩ : ByteArray))))))
theorem impl_MakeClipboard.mono : ∀ a0 a1 a2 k, LeO (impl_MakeClipboard.f k a0 a1 a2) (impl_MakeClipboard.f (k + 1) a0 a1 a2) := by
  intro a0 a1 a2 k
  unfold impl_MakeClipboard.f
  repeat' first
      | (with_reducible exact xansi_ResetClipboard.mono _ _)
      | (with_reducible exact xansi_SetClipboard.mono _ _ _)
      | (with_reducible exact xansi_SetPrimaryClipboard.mono _ _)
      | (with_reducible exact xansi_SetSystemClipboard.mono _ _)
      | (with_reducible exact LeO.refl _)
      | (with_reducible exact LeO.none _)
      | (with_reducible refine LeO.ite ?_ ?_)
      | (with_reducible refine LeO.bind ?_ (fun _ => ?_))
      | exact xansi_ResetClipboard.mono _ _
      | exact xansi_SetClipboard.mono _ _ _
      | exact xansi_SetPrimaryClipboard.mono _ _
      | exact xansi_SetSystemClipboard.mono _ _
      | exact LeO.none _
      | refine LeO.ite ?_ ?_
      | refine LeO.bind ?_ (fun _ => ?_)
set_option maxHeartbeats 8000000 in
set_option maxRecDepth 100000 in
theorem impl_MakeClipboard.calls (k : Nat) (a0 : Int) (a1 : Int) (a2 : ByteArray) (r : ByteArray) (w : World) (h : impl_MakeClipboard.f k a0 a1 a2 = some r) :
    Calls Tryd.prog 17 #[.int .i64 a0, .int .u8 a1, .string a2] w fun e w' => e = .returned (.string r) ∧ Below w.heap.size w w' := by
  have HB := Aside0.mk (Below.refl w.heap.size w)
  have H : (if a0 = 0 then ((xansi_SetClipboard.f k a1 a2).bind fun t294 => (some t294)) else (if a0 = 1 then ((xansi_RequestClipboard.f a1).bind fun t295 => (some t295)) else (if a0 = 2 then ((xansi_ResetClipboard.f k a1).bind fun t296 => (some t296)) else (if a0 = 3 then ((xansi_SetSystemClipboard.f k a2).bind fun t297 => (some t297)) else (if a0 = 4 then ((xansi_SetPrimaryClipboard.f k a2).bind fun t298 => (some t298)) else (some (⟨#[]⟩ : ByteArray))))))) = some r := h
  clear h
  by_cases c4 : a0 = 0
  · rw [if_pos c4] at H
    have c4b0 : (a0 == 0) = true := beq_iff_eq.mpr c4
    have c4b1 : (a0 != 0) = false := bne_eq_false_iff_eq.mpr c4
    clear c4
    replace H := Option.bind_eq_some_iff.mp H
    obtain ⟨t294, A50, H⟩ := H
    replace H : (some t294) = some r := H
    have A5 := Aside0.mk A50
    clear A50
    obtain rfl := Option.some.inj H
    go_enter Tryd.func17, Tryd.ntmps17
    go_wp2_with (first | ((with_reducible refine gate_callee (f := 45) rfl ?_); refine goesL_ (some 12) rfl rfl Tryd.func45 (by kernel_rfl) rfl #[.int .u8 a1, .string a2] rfl (by (try simp only [List.map_toArray, List.map_cons, List.map_nil]); first | done | rfl | (simp only [List.length_drop, List.length_take]; rfl) | (simp [Act.eval, *]; done)) ?_; (with_reducible refine (xansi_SetClipboard.calls k a1 a2 t294 _ A5.out).mono ?_); rintro e w6 ⟨rfl, hb⟩; refine ⟨_, rfl, ?_⟩; have n0_ := Aside0.mk (below_step (by repeat (first | (with_reducible first | exact HB.out | apply below_alloc | apply Go.Proofs.YtjjkagjdbjpikaaDoor.Ext.below_bytes | apply pw_below_drewN | apply below_drew1) | exact HB.out)) hb); clear HB; have HB := n0_; clear n0_; (try clear hb); (try clear hb2); (try clear hk); (try clear hi)))
    go_ret
    exact ⟨by first | rfl | (simp [errW_none, errW_some] <;> rfl) | (simp [*, errW_none, errW_some] <;> rfl), by repeat (first | (with_reducible first | exact HB.out | apply below_alloc | apply Go.Proofs.YtjjkagjdbjpikaaDoor.Ext.below_bytes | apply pw_below_drewN | apply below_drew1) | exact HB.out)⟩
  · rw [if_neg c4] at H
    have c4b0 : (a0 == 0) = false := beq_eq_false_iff_ne.mpr c4
    have c4b1 : (a0 != 0) = true := bne_iff_ne.mpr c4
    by_cases c7 : a0 = 1
    · rw [if_pos c7] at H
      have c7b0 : (a0 == 1) = true := beq_iff_eq.mpr c7
      have c7b1 : (a0 != 1) = false := bne_eq_false_iff_eq.mpr c7
      clear c7
      replace H := Option.bind_eq_some_iff.mp H
      obtain ⟨t295, A80, H⟩ := H
      replace H : (some t295) = some r := H
      have A8 := Aside0.mk A80
      clear A80
      obtain rfl := Option.some.inj H
      go_enter Tryd.func17, Tryd.ntmps17
      go_wp2_with (first | ((with_reducible refine gate_callee (f := 46) rfl ?_); refine goesL_ (some 16) rfl rfl Tryd.func46 (by kernel_rfl) rfl #[.int .u8 a1] rfl (by (try simp only [List.map_toArray, List.map_cons, List.map_nil]); first | done | rfl | (simp only [List.length_drop, List.length_take]; rfl) | (simp [Act.eval, *]; done)) ?_; (with_reducible refine (xansi_RequestClipboard.calls a1 t295 _ A8.out).mono ?_); rintro e w' ⟨rfl, ⟨nd, rfl⟩⟩; refine ⟨_, rfl, ?_⟩))
      go_ret
      exact ⟨by first | rfl | (simp [errW_none, errW_some] <;> rfl) | (simp [*, errW_none, errW_some] <;> rfl), by repeat (first | (with_reducible first | exact HB.out | apply below_alloc | apply Go.Proofs.YtjjkagjdbjpikaaDoor.Ext.below_bytes | apply pw_below_drewN | apply below_drew1) | exact HB.out)⟩
    · rw [if_neg c7] at H
      have c7b0 : (a0 == 1) = false := beq_eq_false_iff_ne.mpr c7
      have c7b1 : (a0 != 1) = true := bne_iff_ne.mpr c7
      by_cases c9 : a0 = 2
      · rw [if_pos c9] at H
        have c9b0 : (a0 == 2) = true := beq_iff_eq.mpr c9
        have c9b1 : (a0 != 2) = false := bne_eq_false_iff_eq.mpr c9
        clear c9
        replace H := Option.bind_eq_some_iff.mp H
        obtain ⟨t296, A100, H⟩ := H
        replace H : (some t296) = some r := H
        have A10 := Aside0.mk A100
        clear A100
        obtain rfl := Option.some.inj H
        go_enter Tryd.func17, Tryd.ntmps17
        go_wp2_with (first | ((with_reducible refine gate_callee (f := 47) rfl ?_); refine goesL_ (some 20) rfl rfl Tryd.func47 (by kernel_rfl) rfl #[.int .u8 a1] rfl (by (try simp only [List.map_toArray, List.map_cons, List.map_nil]); first | done | rfl | (simp only [List.length_drop, List.length_take]; rfl) | (simp [Act.eval, *]; done)) ?_; (with_reducible refine (xansi_ResetClipboard.calls k a1 t296 _ A10.out).mono ?_); rintro e w11 ⟨rfl, hb⟩; refine ⟨_, rfl, ?_⟩; have n0_ := Aside0.mk (below_step (by repeat (first | (with_reducible first | exact HB.out | apply below_alloc | apply Go.Proofs.YtjjkagjdbjpikaaDoor.Ext.below_bytes | apply pw_below_drewN | apply below_drew1) | exact HB.out)) hb); clear HB; have HB := n0_; clear n0_; (try clear hb); (try clear hb2); (try clear hk); (try clear hi)))
        go_ret
        exact ⟨by first | rfl | (simp [errW_none, errW_some] <;> rfl) | (simp [*, errW_none, errW_some] <;> rfl), by repeat (first | (with_reducible first | exact HB.out | apply below_alloc | apply Go.Proofs.YtjjkagjdbjpikaaDoor.Ext.below_bytes | apply pw_below_drewN | apply below_drew1) | exact HB.out)⟩
      · rw [if_neg c9] at H
        have c9b0 : (a0 == 2) = false := beq_eq_false_iff_ne.mpr c9
        have c9b1 : (a0 != 2) = true := bne_iff_ne.mpr c9
        by_cases c12 : a0 = 3
        · rw [if_pos c12] at H
          have c12b0 : (a0 == 3) = true := beq_iff_eq.mpr c12
          have c12b1 : (a0 != 3) = false := bne_eq_false_iff_eq.mpr c12
          clear c12
          replace H := Option.bind_eq_some_iff.mp H
          obtain ⟨t297, A130, H⟩ := H
          replace H : (some t297) = some r := H
          have A13 := Aside0.mk A130
          clear A130
          obtain rfl := Option.some.inj H
          go_enter Tryd.func17, Tryd.ntmps17
          go_wp2_with (first | ((with_reducible refine gate_callee (f := 48) rfl ?_); refine goesL_ (some 24) rfl rfl Tryd.func48 (by kernel_rfl) rfl #[.string a2] rfl (by (try simp only [List.map_toArray, List.map_cons, List.map_nil]); first | done | rfl | (simp only [List.length_drop, List.length_take]; rfl) | (simp [Act.eval, *]; done)) ?_; (with_reducible refine (xansi_SetSystemClipboard.calls k a2 t297 _ A13.out).mono ?_); rintro e w14 ⟨rfl, hb⟩; refine ⟨_, rfl, ?_⟩; have n0_ := Aside0.mk (below_step (by repeat (first | (with_reducible first | exact HB.out | apply below_alloc | apply Go.Proofs.YtjjkagjdbjpikaaDoor.Ext.below_bytes | apply pw_below_drewN | apply below_drew1) | exact HB.out)) hb); clear HB; have HB := n0_; clear n0_; (try clear hb); (try clear hb2); (try clear hk); (try clear hi)))
          go_ret
          exact ⟨by first | rfl | (simp [errW_none, errW_some] <;> rfl) | (simp [*, errW_none, errW_some] <;> rfl), by repeat (first | (with_reducible first | exact HB.out | apply below_alloc | apply Go.Proofs.YtjjkagjdbjpikaaDoor.Ext.below_bytes | apply pw_below_drewN | apply below_drew1) | exact HB.out)⟩
        · rw [if_neg c12] at H
          have c12b0 : (a0 == 3) = false := beq_eq_false_iff_ne.mpr c12
          have c12b1 : (a0 != 3) = true := bne_iff_ne.mpr c12
          by_cases c15 : a0 = 4
          · rw [if_pos c15] at H
            have c15b0 : (a0 == 4) = true := beq_iff_eq.mpr c15
            have c15b1 : (a0 != 4) = false := bne_eq_false_iff_eq.mpr c15
            clear c15
            replace H := Option.bind_eq_some_iff.mp H
            obtain ⟨t298, A160, H⟩ := H
            replace H : (some t298) = some r := H
            have A16 := Aside0.mk A160
            clear A160
            obtain rfl := Option.some.inj H
            go_enter Tryd.func17, Tryd.ntmps17
            go_wp2_with (first | ((with_reducible refine gate_callee (f := 49) rfl ?_); refine goesL_ (some 28) rfl rfl Tryd.func49 (by kernel_rfl) rfl #[.string a2] rfl (by (try simp only [List.map_toArray, List.map_cons, List.map_nil]); first | done | rfl | (simp only [List.length_drop, List.length_take]; rfl) | (simp [Act.eval, *]; done)) ?_; (with_reducible refine (xansi_SetPrimaryClipboard.calls k a2 t298 _ A16.out).mono ?_); rintro e w17 ⟨rfl, hb⟩; refine ⟨_, rfl, ?_⟩; have n0_ := Aside0.mk (below_step (by repeat (first | (with_reducible first | exact HB.out | apply below_alloc | apply Go.Proofs.YtjjkagjdbjpikaaDoor.Ext.below_bytes | apply pw_below_drewN | apply below_drew1) | exact HB.out)) hb); clear HB; have HB := n0_; clear n0_; (try clear hb); (try clear hb2); (try clear hk); (try clear hi)))
            go_ret
            exact ⟨by first | rfl | (simp [errW_none, errW_some] <;> rfl) | (simp [*, errW_none, errW_some] <;> rfl), by repeat (first | (with_reducible first | exact HB.out | apply below_alloc | apply Go.Proofs.YtjjkagjdbjpikaaDoor.Ext.below_bytes | apply pw_below_drewN | apply below_drew1) | exact HB.out)⟩
          · rw [if_neg c15] at H
            have c15b0 : (a0 == 4) = false := beq_eq_false_iff_ne.mpr c15
            have c15b1 : (a0 != 4) = true := bne_iff_ne.mpr c15
            obtain rfl := Option.some.inj H
            go_enter Tryd.func17, Tryd.ntmps17
            go_wp2
            go_ret
            exact ⟨by first | rfl | (simp [errW_none, errW_some] <;> rfl) | (simp [*, errW_none, errW_some] <;> rfl), by repeat (first | (with_reducible first | exact HB.out | apply below_alloc | apply Go.Proofs.YtjjkagjdbjpikaaDoor.Ext.below_bytes | apply pw_below_drewN | apply below_drew1) | exact HB.out)⟩

/-! ### spec_madeCode: function 50 -/
def spec_madeCode.f (a0 : Int) : Option (ByteArray) := if a0 < 128 then (some (strOfNums (([a0] : List Int)))) else (some (strOfNums (([Go.bits .or .u8 192 (a0 / 64), Go.bits .or .u8 128 (Go.bits .and .u8 a0 63)] : List Int))))
set_option maxHeartbeats 8000000 in
set_option maxRecDepth 100000 in
theorem spec_madeCode.calls (a0 : Int) (r : ByteArray) (w : World) (h : spec_madeCode.f a0 = some r) :
    Calls Tryd.prog 50 #[.int .u8 a0] w fun e w' => e = .returned (.string r) ∧ Below w.heap.size w w' := by
  have HB := Aside0.mk (Below.refl w.heap.size w)
  have H : (if a0 < 128 then (some (strOfNums (([a0] : List Int)))) else (some (strOfNums (([Go.bits .or .u8 192 (a0 / 64), Go.bits .or .u8 128 (Go.bits .and .u8 a0 63)] : List Int))))) = some r := h
  clear h
  by_cases c2 : a0 < 128
  · rw [if_pos c2] at H
    have c2b0 : decide (a0 < 128) = true := decide_eq_true c2
    clear c2
    obtain ⟨y299, hy299⟩ : ∃ y_ : List Int, y_ = (([a0] : List Int)) := ⟨_, rfl⟩
    replace H : (some (strOfNums y299)) = some r := by first | (rw [hy299]; with_reducible exact H) | (have H2_ := (Option.bind_some _ _).symm.trans H; rw [hy299]; with_reducible exact H2_) | (have H2_ := (Option.bind_some _ _).symm.trans H; with_reducible exact H2_) | with_reducible exact H | (rw [hy299]; exact H) | exact H
    have Ny299 := Aside0.mk hy299
    clear hy299
    obtain rfl := Option.some.inj H
    go_enter Tryd.func50, Tryd.ntmps50
    go_wp2_with (first | ((with_reducible refine gate_dst (N := 6) rfl ?_); refine Kd.R_lit (Kd.int .u8) _ 5 ?hg (N := 6) ?hd (xs := ([a0] : List Int)) (inner := [.int .u8 a0]) (ok := fun _ => True) (okp := fun _ => True) ?hr ?hp (fun _ hk => hk) trivial (Below.refl _ _) (Nat.le_refl _) (by simp) ?_; (case hd => rfl); (case hg => rfl); (case hr => first | (go_simp; done) | (go_simp; rfl)); (case hp => exact (Reps.one (show Kd.M (Kd.int .u8) _ _ _ a0 [.int .u8 a0] from rfl) (Reps.none _ _))); intro v300 w3 ho4 hb hg_ hnew_; clear hg_ hnew_; (first | rw [← Ny299.out] at ho4 | (simp only [Int.reduceToNat] at ho4; rw [← Ny299.out] at ho4)); have n0_ := Aside0.mk (Kd.R_lower ho4 (below_size (by repeat (first | (with_reducible first | exact HB.out | apply below_alloc | apply Go.Proofs.YtjjkagjdbjpikaaDoor.Ext.below_bytes | apply pw_below_drewN | apply below_drew1) | exact HB.out)))); have n1_ := Aside0.mk (below_step (by repeat (first | (with_reducible first | exact HB.out | apply below_alloc | apply Go.Proofs.YtjjkagjdbjpikaaDoor.Ext.below_bytes | apply pw_below_drewN | apply below_drew1) | exact HB.out)) hb); clear HB; have HO301 := n0_; have HB := n1_; clear n0_ n1_; clear hb ho4; have hcv5 := own_string (P := Tryd.prog) Tryd.underlying32 Tryd.underlying5 Tryd.underlying9 (Kd.own_of_R HO301.out)))
    go_ret
    exact ⟨by first | rfl | (simp [errW_none, errW_some] <;> rfl) | (simp [*, errW_none, errW_some] <;> rfl), by repeat (first | (with_reducible first | exact HB.out | apply below_alloc | apply Go.Proofs.YtjjkagjdbjpikaaDoor.Ext.below_bytes | apply pw_below_drewN | apply below_drew1) | exact HB.out)⟩
  · rw [if_neg c2] at H
    have c2b0 : decide (a0 < 128) = false := decide_eq_false c2
    clear c2
    obtain ⟨y302, hy302⟩ : ∃ y_ : List Int, y_ = (([Go.bits .or .u8 192 (a0 / 64), Go.bits .or .u8 128 (Go.bits .and .u8 a0 63)] : List Int)) := ⟨_, rfl⟩
    replace H : (some (strOfNums y302)) = some r := by first | (rw [hy302]; with_reducible exact H) | (have H2_ := (Option.bind_some _ _).symm.trans H; rw [hy302]; with_reducible exact H2_) | (have H2_ := (Option.bind_some _ _).symm.trans H; with_reducible exact H2_) | with_reducible exact H | (rw [hy302]; exact H) | exact H
    have Ny302 := Aside0.mk hy302
    clear hy302
    obtain rfl := Option.some.inj H
    go_enter Tryd.func50, Tryd.ntmps50
    go_wp2_with (first | ((with_reducible refine gate_dst (N := 14) rfl ?_); refine Kd.R_lit (Kd.int .u8) _ 5 ?hg (N := 14) ?hd (xs := ([Go.bits .or .u8 192 (a0 / 64), Go.bits .or .u8 128 (Go.bits .and .u8 a0 63)] : List Int)) (inner := [.int .u8 (Go.bits .or .u8 192 (a0 / 64)), .int .u8 (Go.bits .or .u8 128 (Go.bits .and .u8 a0 63))]) (ok := fun _ => True) (okp := fun _ => True) ?hr ?hp (fun _ hk => hk) trivial (Below.refl _ _) (Nat.le_refl _) (by simp) ?_; (case hd => rfl); (case hg => rfl); (case hr => first | (go_simp; done) | (go_simp; rfl)); (case hp => exact (Reps.one (show Kd.M (Kd.int .u8) _ _ _ (Go.bits .or .u8 192 (a0 / 64)) [.int .u8 (Go.bits .or .u8 192 (a0 / 64))] from rfl) (Reps.one (show Kd.M (Kd.int .u8) _ _ _ (Go.bits .or .u8 128 (Go.bits .and .u8 a0 63)) [.int .u8 (Go.bits .or .u8 128 (Go.bits .and .u8 a0 63))] from rfl) (Reps.none _ _)))); intro v303 w6 ho7 hb hg_ hnew_; clear hg_ hnew_; (first | rw [← Ny302.out] at ho7 | (simp only [Int.reduceToNat] at ho7; rw [← Ny302.out] at ho7)); have n0_ := Aside0.mk (Kd.R_lower ho7 (below_size (by repeat (first | (with_reducible first | exact HB.out | apply below_alloc | apply Go.Proofs.YtjjkagjdbjpikaaDoor.Ext.below_bytes | apply pw_below_drewN | apply below_drew1) | exact HB.out)))); have n1_ := Aside0.mk (below_step (by repeat (first | (with_reducible first | exact HB.out | apply below_alloc | apply Go.Proofs.YtjjkagjdbjpikaaDoor.Ext.below_bytes | apply pw_below_drewN | apply below_drew1) | exact HB.out)) hb); clear HB; have HO304 := n0_; have HB := n1_; clear n0_ n1_; clear hb ho7; have hcv8 := own_string (P := Tryd.prog) Tryd.underlying32 Tryd.underlying5 Tryd.underlying9 (Kd.own_of_R HO304.out)))
    go_ret
    exact ⟨by first | rfl | (simp [errW_none, errW_some] <;> rfl) | (simp [*, errW_none, errW_some] <;> rfl), by repeat (first | (with_reducible first | exact HB.out | apply below_alloc | apply Go.Proofs.YtjjkagjdbjpikaaDoor.Ext.below_bytes | apply pw_below_drewN | apply below_drew1) | exact HB.out)⟩

-- NOT PRINTED: function 51 (spec_Base64)

-- NOT PRINTED: function 18 (spec_MadeClipboard)

-- NOT PRINTED: function 4 (laws_FnMakeClipboard)

-- NOT PRINTED: function 117 (bytes_Buffer_tryGrowByReslice)

/-- A state of type 87 at block g of W; what its slices lead to came in by w0. -/
def IsS87 (w0 W : World) (g : Nat) (f0 : List Int) (f1 : Int) (f2 : Int) : Prop := ∃ A0 c0, W.heap[g]? = some (.cells #[.slice A0 f0.length c0, .int .i64 f1, .int .i8 f2] 87 (0, 0)) ∧ w0.heap.size ≤ g ∧ Kd.C (Kd.int .u8) w0 A0 f0.length f0
theorem IsS87.grown {w0 W : World} {g : Nat} {f0 : List Int} {f1 : Int} {f2 : Int} {W1 : World} {row : Option Nat} (h : IsS87 w0 W g f0 f1 f2) (hw : W.grownBy W1 row) (hne : some g ≠ row) : IsS87 w0 W1 g f0 f1 f2 := by
  obtain ⟨A0, c0, hb, hg, hr0⟩ := h
  exact ⟨A0, c0, blk_grown hb hw hne, hg, hr0⟩
theorem IsS87.own_neN {w0 W : World} {g : Nat} {f0 : List Int} {f1 : Int} {f2 : Int} {α : Type} {d : Kd α} {e : Nat} {base : Nat} {ok : Nat → Prop} {v : Value} {xs : List α} (h : IsS87 w0 W g f0 f1 f2) (ho : Kd.N d e W base ok v xs) (ht : e ≠ 87) : some g ≠ v.ownBlock := by
  obtain ⟨A0, c0, hb, hg, hr0⟩ := h
  exact Kd.N_ne ho hb ht
theorem IsS87.fresh {w0 W : World} {g : Nat} {f0 : List Int} {f1 : Int} {f2 : Int} (h : IsS87 w0 W g f0 f1 f2) : ∀ k, W.heap.size ≤ k → k ≠ g := by
  obtain ⟨A0, c0, hb, hg, hr0⟩ := h
  exact Kd.freshB hb
theorem IsS87.kept {w0 W : World} {g : Nat} {f0 : List Int} {f1 : Int} {f2 : Int} {W1 : World} {S : Nat → Prop} (h : IsS87 w0 W g f0 f1 f2) (hk : Kept W W1 S) (hne : ¬ S g) : IsS87 w0 W1 g f0 f1 f2 := by
  obtain ⟨A0, c0, hb, hg, hr0⟩ := h
  exact ⟨A0, c0, blk_kept hb hk hne, hg, hr0⟩
theorem IsS87.below {w0 W : World} {g : Nat} {f0 : List Int} {f1 : Int} {f2 : Int} {W1 : World} (h : IsS87 w0 W g f0 f1 f2) (hw : Below W.heap.size W W1) : IsS87 w0 W1 g f0 f1 f2 := h.grown (grown_of_below hw none) (by simp)
theorem IsS87.alloc {w0 W : World} {g : Nat} {f0 : List Int} {f1 : Int} {f2 : Int} (h : IsS87 w0 W g f0 f1 f2) (o : Obj) : IsS87 w0 (W.alloc o) g f0 f1 f2 := h.below (below_alloc (Below.refl _ _) o)
theorem IsS87.drewN {w0 W : World} {g : Nat} {f0 : List Int} {f1 : Int} {f2 : Int} (h : IsS87 w0 W g f0 f1 f2) (m : Nat) : IsS87 w0 (W.drewN m) g f0 f1 f2 := h
theorem IsS87.drew {w0 W : World} {g : Nat} {f0 : List Int} {f1 : Int} {f2 : Int} (h : IsS87 w0 W g f0 f1 f2) : IsS87 w0 W.drew g f0 f1 f2 := h
theorem IsS87.at_ {w0 W : World} {g : Nat} {f0 : List Int} {f1 : Int} {f2 : Int} {w' : World} {m : Nat} (hq : W.drewN m = w') (h : IsS87 w0 W g f0 f1 f2) : IsS87 w0 w' g f0 f1 f2 := by subst hq; exact IsS87.drewN h m
theorem IsS87.apart {w0 W : World} {g : Nat} {f0 : List Int} {f1 : Int} {f2 : Int} {α : Type} {d : Kd α} {e : Nat} {base : Nat} {ok : Nat → Prop} {v : Value} {xs : List α} (h : IsS87 w0 W g f0 f1 f2) (ho : d.R e W base ok v xs) (ht : ∀ q, q ∈ e :: d.E → q ≠ 87) : d.R e W base (fun k => ok k ∧ k ≠ g) v xs := by
  obtain ⟨A0, c0, hb, hg, hr0⟩ := h
  exact Kd.R_types ho hb ht
theorem IsS87.own_ne {w0 W : World} {g : Nat} {f0 : List Int} {f1 : Int} {f2 : Int} {α : Type} {d : Kd α} {e : Nat} {base : Nat} {ok : Nat → Prop} {v : Value} {xs : List α} (h : IsS87 w0 W g f0 f1 f2) (ho : d.R e W base ok v xs) (ht : e ≠ 87) : some g ≠ v.ownBlock := by
  obtain ⟨A0, c0, hb, hg, hr0⟩ := h
  exact Kd.R_ne ho hb ht
theorem IsS87.apartQ {w0 W : World} {g : Nat} {f0 : List Int} {f1 : Int} {f2 : Int} {α : Type} {d : Kd α} {e : Nat} {base : Nat} {ok : Nat → Prop} {v : Value} {xs : List α} (h : IsS87 w0 W g f0 f1 f2) (ho : d.Q e W base ok v xs) (ht : ∀ q, q ∈ e :: d.E → q ≠ 87) : d.Q e W base (fun k => ok k ∧ k ≠ g) v xs := by
  obtain ⟨A0, c0, hb, hg, hr0⟩ := h
  exact Kd.Q_types ho hb ht
theorem IsS87.own_neQ {w0 W : World} {g : Nat} {f0 : List Int} {f1 : Int} {f2 : Int} {α : Type} {d : Kd α} {e : Nat} {base : Nat} {ok : Nat → Prop} {v : Value} {xs : List α} (h : IsS87 w0 W g f0 f1 f2) (ho : d.Q e W base ok v xs) (ht : e ≠ 87) : some g ≠ v.ownBlock := by
  obtain ⟨A0, c0, hb, hg, hr0⟩ := h
  exact Kd.Q_ne ho hb ht
theorem IsS87.apartS {w0 W : World} {g : Nat} {f0 : List Int} {f1 : Int} {f2 : Int} {α : Type} {d : Kd α} {e : Nat} {base : Nat} {ok : Nat → Prop} {v : Value} {xs : List α} (h : IsS87 w0 W g f0 f1 f2) (ho : d.S e W base ok v xs) (ht : ∀ q, q ∈ e :: d.E → q ≠ 87) : d.S e W base (fun k => ok k ∧ k ≠ g) v xs := by
  obtain ⟨A0, c0, hb, hg, hr0⟩ := h
  exact Kd.S_types ho hb ht
theorem IsS87.own_neS {w0 W : World} {g : Nat} {f0 : List Int} {f1 : Int} {f2 : Int} {α : Type} {d : Kd α} {e : Nat} {base : Nat} {ok : Nat → Prop} {v : Value} {xs : List α} (h : IsS87 w0 W g f0 f1 f2) (ho : d.S e W base ok v xs) (ht : e ≠ 87) : some g ≠ v.ownBlock := by
  obtain ⟨A0, c0, hb, hg, hr0⟩ := h
  exact Kd.S_ne ho hb ht
theorem IsS87.lt {w0 W : World} {g : Nat} {f0 : List Int} {f1 : Int} {f2 : Int} (h : IsS87 w0 W g f0 f1 f2) : g < W.heap.size := by
  obtain ⟨A0, c0, hb, hg, hr0⟩ := h
  exact blk_lt hb
theorem IsS87.ge {w0 W : World} {g : Nat} {f0 : List Int} {f1 : Int} {f2 : Int} (h : IsS87 w0 W g f0 f1 f2) : w0.heap.size ≤ g := by
  obtain ⟨A0, c0, hb, hg, hr0⟩ := h
  exact hg
theorem IsS87.ne_blk {w0 W : World} {g : Nat} {f0 : List Int} {f1 : Int} {f2 : Int} {a : Nat} {cs : Array Value} {t : TypeId} {fr : Nat × Nat} (h : IsS87 w0 W g f0 f1 f2) (hb2 : W.heap[a]? = some (.cells cs t fr)) (ht : t ≠ 87) : g ≠ a := by
  obtain ⟨A0, c0, hb, hg, hr0⟩ := h
  rintro rfl
  rw [hb] at hb2
  injection hb2 with hb2
  injection hb2 with _ ht2
  exact ht ht2.symm
theorem IsS87.far {w0 W : World} {g : Nat} {f0 : List Int} {f1 : Int} {f2 : Int} {p : Addr} (h : IsS87 w0 W g f0 f1 f2) (hne : g ≠ p.block) (u : Value) : IsS87 w0 (W.setCell p u) g f0 f1 f2 := by
  obtain ⟨A0, c0, hb, hg, hr0⟩ := h
  exact ⟨A0, c0, blk_far hb hne u, hg, hr0⟩
theorem cellS87_0 {W : World} {g : Nat} {A0 : Option Addr} {c0 : Nat} {f0 : List Int} {f1 : Int} {f2 : Int} (h : W.heap[g]? = some (.cells #[.slice A0 f0.length c0, .int .i64 f1, .int .i8 f2] 87 (0, 0))) : W.cell? ⟨g, 0, none⟩ = some (.slice A0 f0.length c0) := (blk_cell h 0).trans rfl
theorem cellS87_1 {W : World} {g : Nat} {A0 : Option Addr} {c0 : Nat} {f0 : List Int} {f1 : Int} {f2 : Int} (h : W.heap[g]? = some (.cells #[.slice A0 f0.length c0, .int .i64 f1, .int .i8 f2] 87 (0, 0))) : W.cell? ⟨g, 1, none⟩ = some (.int .i64 f1) := (blk_cell h 1).trans rfl
theorem IsS87.set_1 {w0 W : World} {g : Nat} {f0 : List Int} {f1 : Int} {f2 : Int} (h : IsS87 w0 W g f0 f1 f2) (x : Int) : IsS87 w0 (W.setCell ⟨g, 1, none⟩ (.int .i64 x)) g f0 x f2 := by
  obtain ⟨A0, c0, hb, hg, hr0⟩ := h
  exact ⟨A0, c0, by simpa using blk_set hb 1 (.int .i64 x), hg, hr0⟩
theorem cellS87_2 {W : World} {g : Nat} {A0 : Option Addr} {c0 : Nat} {f0 : List Int} {f1 : Int} {f2 : Int} (h : W.heap[g]? = some (.cells #[.slice A0 f0.length c0, .int .i64 f1, .int .i8 f2] 87 (0, 0))) : W.cell? ⟨g, 2, none⟩ = some (.int .i8 f2) := (blk_cell h 2).trans rfl
theorem IsS87.set_2 {w0 W : World} {g : Nat} {f0 : List Int} {f1 : Int} {f2 : Int} (h : IsS87 w0 W g f0 f1 f2) (x : Int) : IsS87 w0 (W.setCell ⟨g, 2, none⟩ (.int .i8 x)) g f0 f1 x := by
  obtain ⟨A0, c0, hb, hg, hr0⟩ := h
  exact ⟨A0, c0, by simpa using blk_set hb 2 (.int .i8 x), hg, hr0⟩
theorem IsS87.new (w0 W : World) (A0 : Option Addr) (c0 : Nat) (f0 : List Int) (f1 : Int) (f2 : Int) (hB : Below w0.heap.size w0 W) (hr0 : Kd.C (Kd.int .u8) w0 A0 f0.length f0) : IsS87 w0 (W.alloc (.cells #[.slice A0 f0.length c0, .int .i64 f1, .int .i8 f2] 87)) W.heap.size f0 f1 f2 := ⟨A0, c0, by simpa using heap_alloc_new W _, hB.size, hr0⟩

/-! ### bytes_Buffer_Len: function 128 -/
def bytes_Buffer_Len.f (s0_0 : List Int) (s0_1 : Int) (s0_2 : Int) : Option (Int × Int × Int) := some (wrap64 ((s0_0.length : Int) - s0_1), s0_1, s0_2)
set_option maxHeartbeats 8000000 in
set_option maxRecDepth 100000 in
theorem bytes_Buffer_Len.calls (g : Nat) (s0_0 : List Int) (s0_1 : Int) (s0_2 : Int) (r1 : Int) (r2 : Int) (r3 : Int) (w0 w : World) (hI : IsS87 w0 w g s0_0 s0_1 s0_2) (hB : Below w0.heap.size w0 w) (h : bytes_Buffer_Len.f s0_0 s0_1 s0_2 = some (r1, r2, r3)) :
    Calls Tryd.prog 128 #[.pointer (some ⟨g, 0, none⟩)] w fun e w' => e = .returned (.int .i64 r1) ∧ IsS87 w0 w' g s0_0 r2 r3 ∧ Below w0.heap.size w0 w' ∧ KeepBut w w' g none := by
  have HI0 := Aside0.mk hI
  have HK := Aside0.mk (KeepBut.refl w g none)
  have HL := Aside0.mk hB.size
  clear hI
  have HW0 := Aside0.mk hB.size
  have HB := Aside0.mk hB
  clear hB
  have H : (some (wrap64 ((s0_0.length : Int) - s0_1), s0_1, s0_2)) = some (r1, r2, r3) := h
  clear h
  simp only [Option.some.injEq, Prod.mk.injEq] at H
  obtain ⟨rfl, rfl, rfl⟩ := H
  obtain ⟨ASz2_0, cSz2_0, HGz2, hgz2, HSz2_0⟩ := HI0.out
  have hcz2_0 := cellS87_0 HGz2
  have hcz2_1 := cellS87_1 HGz2
  have hcz2_2 := cellS87_2 HGz2
  have hfz2_1 := blk_frozen HGz2 1
  have hfz2_2 := blk_frozen HGz2 2
  clear HGz2 hgz2
  go_enter Tryd.func128, Tryd.ntmps128
  go_wp2
  repeat (go_quiet (fail); try go_wp2)
  go_ret
  exact ⟨by first | rfl | (simp [errW_none, errW_some] <;> rfl) | (simp [*, errW_none, errW_some] <;> rfl), by repeat (first | (with_reducible first | exact HI0.out | apply IsS87.alloc | apply IsS87.drewN | apply IsS87.drew | apply IsS87.set_1 | apply IsS87.set_2) | exact HI0.out), by repeat (first | (with_reducible first | exact HB.out | apply below_alloc | apply Go.Proofs.YtjjkagjdbjpikaaDoor.Ext.below_bytes | apply pw_below_drewN | apply below_drew1 | refine below_set ?_ (IsS87.ge HI0.out)) | exact HB.out), by repeat (first | (with_reducible first | exact HK.out | apply KeepBut.set_ | apply keep_drewN | apply keep_drew | apply keep_alloc) | exact HK.out)⟩

-- NOT PRINTED: function 129 (bytes_Buffer_Reset)

-- NOT PRINTED: function 130 (bytes_growSlice)

-- NOT PRINTED: function 118 (bytes_Buffer_grow)

-- NOT PRINTED: function 104 (bytes_Buffer_WriteString)

-- NOT PRINTED: function 105 (bytes_Buffer_String)

-- NOT PRINTED: function 52 (xansi_ScreenPassthrough)

-- NOT PRINTED: function 19 (impl_Screen)

-- NOT PRINTED: function 20 (spec_MadeScreen)

-- NOT PRINTED: function 5 (laws_FnScreen)

-- NOT PRINTED: function 106 (bytes_Buffer_Write)

-- NOT PRINTED: function 53 (xansi_KittyGraphics)

/-! ### impl_own: function 54 -/
def impl_own.f (l0 : List Int) : Option (List Int) := if ([] : List Int).length + l0.length < 140737488355328 then (some (([] : List Int) ++ l0)) else (none)
set_option maxHeartbeats 8000000 in
set_option maxRecDepth 100000 in
theorem impl_own.calls (A0 : Option Addr) (c0 : Nat) (l0 : List Int) (r : List Int) (w : World) (hr0 : Kd.C (Kd.int .u8) w A0 l0.length l0) (hc0 : l0.length ≤ c0) (h : impl_own.f l0 = some r) :
    Calls Tryd.prog 54 #[.slice A0 l0.length c0] w fun e w' => ∃ v0_ : Value, e = .returned (v0_) ∧ Kd.R (Kd.int .u8) 5 w' w.heap.size (fun _ => True) v0_ r ∧ Below w.heap.size w w' := by
  have HR0 := Aside0.mk hr0
  have HC0 := Aside0.mk hc0
  clear hr0 hc0
  have HB := Aside0.mk (Below.refl w.heap.size w)
  have H : (if ([] : List Int).length + l0.length < 140737488355328 then (some (([] : List Int) ++ l0)) else (none)) = some r := h
  clear h
  by_cases c2 : ([] : List Int).length + l0.length < 140737488355328
  · rw [if_pos c2] at H
    have LMc2 := Aside0.mk c2
    clear c2
    obtain ⟨y324, hy324⟩ : ∃ y_ : List Int, y_ = (([] : List Int) ++ l0) := ⟨_, rfl⟩
    replace H : (some y324) = some r := by first | (rw [hy324]; with_reducible exact H) | (have H2_ := (Option.bind_some _ _).symm.trans H; rw [hy324]; with_reducible exact H2_) | (have H2_ := (Option.bind_some _ _).symm.trans H; with_reducible exact H2_) | with_reducible exact H | (rw [hy324]; exact H) | exact H
    have Ny324 := Aside0.mk hy324
    clear hy324
    obtain rfl := Option.some.inj H
    go_enter Tryd.func54, Tryd.ntmps54
    go_wp2_with (first | ((with_reducible refine gate_builtin (b := .append) (xs := #[.const (.slice none 0 0), .tmp 3]) rfl ?_); at_builtin; refine Kd.R_append_rows (Kd.int .u8) (w0 := w) w.heap.size rfl (.const (.slice none 0 0)) (.tmp 3) 32 5 (.int .u8 0) 1 rfl Tryd.underlying32 info5 rfl (by decide) (by omega) (.slice none 0 0) ([] : List Int) l0 _ _ _ (fun _ => True) (fun _ => False) rfl rfl ?aO ?aR (fun _ _ h => h) (fun _ h => h.elim) ?aF ?aB ?aS ?aL ?_; (case aR => repeat (first | exact HR0.out | (with_reducible refine Kd.C_alloc ?_ _) | (with_reducible refine Kd.C_drewN ?_ _) | (with_reducible refine Kd.C_drew ?_))); (case aB => exact (by repeat (first | (with_reducible first | exact HB.out | apply below_alloc | apply Go.Proofs.YtjjkagjdbjpikaaDoor.Ext.below_bytes | apply pw_below_drewN | apply below_drew1) | exact HB.out))); (case aF => exact (fun _ _ => trivial)); (case aO => exact ((Kd.R_nil _ _ _ _ (fun _ => True)))); (case aS => exact (below_size (by repeat (first | (with_reducible first | exact HB.out | apply below_alloc | apply Go.Proofs.YtjjkagjdbjpikaaDoor.Ext.below_bytes | apply pw_below_drewN | apply below_drew1) | exact HB.out)))); (case aL => have := LMc2.out; omega); intro v325 w3 ho hb hg hat; rw [← Ny324.out] at ho; have n0_ := Aside0.mk (hb); have n1_ := Aside0.mk (ho); clear HB; have HB := n0_; have HO326 := n1_; clear n0_ n1_; clear ho hb hg hat))
    go_ret
    exact ⟨_, by first | rfl | (simp [errW_none, errW_some] <;> rfl) | (simp [*, errW_none, errW_some] <;> rfl), by (with_reducible repeat (first | apply Kd.R_alloc | apply Go.Proofs.YtjjkagjdbjpikaaDoor.Ext.R_bytes | apply Kd.R_drewN | apply Kd.R_drew)); exact HO326.out, by repeat (first | (with_reducible first | exact HB.out | apply below_alloc | apply Go.Proofs.YtjjkagjdbjpikaaDoor.Ext.below_bytes | apply pw_below_drewN | apply below_drew1) | exact HB.out)⟩
  · rw [if_neg c2] at H
    exact absurd H (by simp)

-- NOT PRINTED: function 21 (impl_Kitty)

-- NOT PRINTED: function 22 (spec_MadeKitty)

-- NOT PRINTED: function 6 (laws_FnKitty)

/-! ### xansi_zzHex: function 107 -/
def xansi_zzHex.l0 : Nat → Int → Int → ByteArray → Option (ByteArray)
  | 0, _, _, _ => none
  | k + 1, x0, x1, x5 => if x0 > 0 then (if 0 ≤ (Go.bits .and .u32 x0 15) then (if (Go.bits .and .u32 x0 15) < 16 then (if (Utf8.encode (bt (⟨#[48, 49, 50, 51, 52, 53, 54, 55, 56, 57, 97, 98, 99, 100, 101, 102]⟩ : ByteArray) (Go.bits .and .u32 x0 15))).size + x5.size ≤ 9223372036854775807 then (xansi_zzHex.l0 k (x0 / 16) x1 ((Utf8.encode (bt (⟨#[48, 49, 50, 51, 52, 53, 54, 55, 56, 57, 97, 98, 99, 100, 101, 102]⟩ : ByteArray) (Go.bits .and .u32 x0 15))) ++ x5)) else (none)) else (none)) else (none)) else (if (x5.size : Int) < x1 then (if 0 ≤ (Go.bits .and .u32 x0 15) then (if (Go.bits .and .u32 x0 15) < 16 then (if (Utf8.encode (bt (⟨#[48, 49, 50, 51, 52, 53, 54, 55, 56, 57, 97, 98, 99, 100, 101, 102]⟩ : ByteArray) (Go.bits .and .u32 x0 15))).size + x5.size ≤ 9223372036854775807 then (xansi_zzHex.l0 k (x0 / 16) x1 ((Utf8.encode (bt (⟨#[48, 49, 50, 51, 52, 53, 54, 55, 56, 57, 97, 98, 99, 100, 101, 102]⟩ : ByteArray) (Go.bits .and .u32 x0 15))) ++ x5)) else (none)) else (none)) else (none)) else (some x5))
def xansi_zzHex.f (k : Nat) (a0 : Int) (a1 : Int) : Option (ByteArray) := xansi_zzHex.l0 k a0 a1 (⟨#[]⟩ : ByteArray)
theorem xansi_zzHex.mono_l : ∀ k, (∀ y0 y1 y2, LeO (xansi_zzHex.l0 k y0 y1 y2) (xansi_zzHex.l0 (k + 1) y0 y1 y2))
  | 0 => fun _ _ _ r h => by simp [xansi_zzHex.l0] at h
  | k + 1 => by
    have ih0 := xansi_zzHex.mono_l k
    · intro y0 y1 y2
      unfold xansi_zzHex.l0
      repeat' first
      | (with_reducible exact ih0 _ _ _)
      | (with_reducible exact LeO.refl _)
      | (with_reducible exact LeO.none _)
      | (with_reducible refine LeO.ite ?_ ?_)
      | (with_reducible refine LeO.bind ?_ (fun _ => ?_))
      | exact ih0 _ _ _
      | exact LeO.none _
      | refine LeO.ite ?_ ?_
      | refine LeO.bind ?_ (fun _ => ?_)
theorem xansi_zzHex.mono : ∀ a0 a1 k, LeO (xansi_zzHex.f k a0 a1) (xansi_zzHex.f (k + 1) a0 a1) := by
  intro a0 a1 k
  have ih0 := xansi_zzHex.mono_l k
  unfold xansi_zzHex.f
  repeat' first
      | (with_reducible exact ih0 _ _ _)
      | (with_reducible exact LeO.refl _)
      | (with_reducible exact LeO.none _)
      | (with_reducible refine LeO.ite ?_ ?_)
      | (with_reducible refine LeO.bind ?_ (fun _ => ?_))
      | exact ih0 _ _ _
      | exact LeO.none _
      | refine LeO.ite ?_ ?_
      | refine LeO.bind ?_ (fun _ => ?_)
set_option maxHeartbeats 8000000 in
set_option maxRecDepth 100000 in
theorem xansi_zzHex.calls (k : Nat) (a0 : Int) (a1 : Int) (r : ByteArray) (w : World) (h : xansi_zzHex.f k a0 a1 = some r) :
    Calls Tryd.prog 107 #[.int .u32 a0, .int .i64 a1] w fun e w' => e = .returned (.string r) ∧ Drawn0 w w' := by
  have H : (xansi_zzHex.l0 k a0 a1 (⟨#[]⟩ : ByteArray)) = some r := h
  clear h
  have H' := Aside0.mk H
  clear H
  go_enter Tryd.func107, Tryd.ntmps107
  go_wp2
  go_loopg [0, 5] k (fun kq v0 v5 w' => ∃ (x0_1 : Int) (x5_1 : ByteArray), v0 = .int .u32 x0_1 ∧ v5 = .string x5_1 ∧ Aside0 (xansi_zzHex.l0 kq x0_1 a1 x5_1 = some r) ∧ Aside0 (kq ≤ k) ∧ Drawn0 w w')
  case atStart => exact ⟨(a0), ((⟨#[]⟩ : ByteArray)), (by first | rfl | (simp; done) | (simp [*]; done)), (by first | rfl | (simp; done) | (simp [*]; done)), H', ⟨Nat.le_refl _⟩, by repeat (first | exact Drawn0.refl _ | apply Drawn0.step)⟩
  case round =>
    clear H'
    try clear c1
    try clear p2
    obtain ⟨x0_1, x5_1, rfl, rfl, HA, HK1, ⟨m1, rfl⟩⟩ := hrel
    cases gk with
    | zero => exact absurd HA.out (by simp [xansi_zzHex.l0])
    | succ k1 =>
      have H := HA.out
      clear HA
      simp only [xansi_zzHex.l0] at H
      by_cases c3 : x0_1 > 0
      · rw [if_pos c3] at H
        have c3b0 : decide (0 < x0_1) = true := decide_eq_true c3
        clear c3
        by_cases c4 : 0 ≤ (Go.bits .and .u32 x0_1 15)
        · rw [if_pos c4] at H
          have c4b0 : decide (0 ≤ (Go.bits .and .u32 x0_1 15)) = true := decide_eq_true c4
          clear c4
          by_cases c5 : (Go.bits .and .u32 x0_1 15) < 16
          · rw [if_pos c5] at H
            have c5b0 : decide ((Go.bits .and .u32 x0_1 15) < 16) = true := decide_eq_true c5
            clear c5
            by_cases c7 : (Utf8.encode (bt (⟨#[48, 49, 50, 51, 52, 53, 54, 55, 56, 57, 97, 98, 99, 100, 101, 102]⟩ : ByteArray) (Go.bits .and .u32 x0_1 15))).size + x5_1.size ≤ 9223372036854775807
            · rw [if_pos c7] at H
              have c7b0 := eq_true c7
              have c7b1 : decide ((Utf8.encode (bt (⟨#[48, 49, 50, 51, 52, 53, 54, 55, 56, 57, 97, 98, 99, 100, 101, 102]⟩ : ByteArray) (Go.bits .and .u32 x0_1 15))).size + x5_1.size ≤ 9223372036854775807) = true := decide_eq_true c7
              try have c7b2 : (9223372036854775807 < (Utf8.encode (bt (⟨#[48, 49, 50, 51, 52, 53, 54, 55, 56, 57, 97, 98, 99, 100, 101, 102]⟩ : ByteArray) (Go.bits .and .u32 x0_1 15))).size + x5_1.size) = False := eq_false (Nat.not_lt.2 c7)
              have H' := Aside0.mk H
              clear H
              have p6 : 0 ≤ ((Go.bits .and .u32 x0_1 15) : Int) := of_decide_eq_true (by first | (with_reducible assumption) | assumption)
              have q6 : (Go.bits .and .u32 x0_1 15) < (16 : Int) := of_decide_eq_true (by first | (with_reducible assumption) | assumption)
              have hx6 := bt_at (⟨#[48, 49, 50, 51, 52, 53, 54, 55, 56, 57, 97, 98, 99, 100, 101, 102]⟩ : ByteArray) (Go.bits .and .u32 x0_1 15)
              replace p6 := eq_true p6
              replace q6 := eq_true q6
              go_wp2
              go_roundg k1
              case measure => have := HK1.out; omega
              case rel => exact ⟨(x0_1 / 16), ((Utf8.encode (bt (⟨#[48, 49, 50, 51, 52, 53, 54, 55, 56, 57, 97, 98, 99, 100, 101, 102]⟩ : ByteArray) (Go.bits .and .u32 x0_1 15))) ++ x5_1), (by first | rfl | (simp; done) | (simp [*]; done)), (by first | rfl | (simp; done) | (simp [*]; done)), H', ⟨by have := HK1.out; omega⟩, by repeat (first | exact Drawn0.refl _ | apply Drawn0.step)⟩
            · rw [if_neg c7] at H
              exact absurd H (by simp)
          · rw [if_neg c5] at H
            exact absurd H (by simp)
        · rw [if_neg c4] at H
          exact absurd H (by simp)
      · rw [if_neg c3] at H
        have c3b0 : decide (0 < x0_1) = false := decide_eq_false c3
        clear c3
        by_cases c8 : (x5_1.size : Int) < a1
        · rw [if_pos c8] at H
          have c8b0 : decide ((x5_1.size : Int) < a1) = true := decide_eq_true c8
          clear c8
          by_cases c9 : 0 ≤ (Go.bits .and .u32 x0_1 15)
          · rw [if_pos c9] at H
            have c9b0 : decide (0 ≤ (Go.bits .and .u32 x0_1 15)) = true := decide_eq_true c9
            clear c9
            by_cases c10 : (Go.bits .and .u32 x0_1 15) < 16
            · rw [if_pos c10] at H
              have c10b0 : decide ((Go.bits .and .u32 x0_1 15) < 16) = true := decide_eq_true c10
              clear c10
              by_cases c12 : (Utf8.encode (bt (⟨#[48, 49, 50, 51, 52, 53, 54, 55, 56, 57, 97, 98, 99, 100, 101, 102]⟩ : ByteArray) (Go.bits .and .u32 x0_1 15))).size + x5_1.size ≤ 9223372036854775807
              · rw [if_pos c12] at H
                have c12b0 := eq_true c12
                have c12b1 : decide ((Utf8.encode (bt (⟨#[48, 49, 50, 51, 52, 53, 54, 55, 56, 57, 97, 98, 99, 100, 101, 102]⟩ : ByteArray) (Go.bits .and .u32 x0_1 15))).size + x5_1.size ≤ 9223372036854775807) = true := decide_eq_true c12
                try have c12b2 : (9223372036854775807 < (Utf8.encode (bt (⟨#[48, 49, 50, 51, 52, 53, 54, 55, 56, 57, 97, 98, 99, 100, 101, 102]⟩ : ByteArray) (Go.bits .and .u32 x0_1 15))).size + x5_1.size) = False := eq_false (Nat.not_lt.2 c12)
                have H' := Aside0.mk H
                clear H
                have p11 : 0 ≤ ((Go.bits .and .u32 x0_1 15) : Int) := of_decide_eq_true (by first | (with_reducible assumption) | assumption)
                have q11 : (Go.bits .and .u32 x0_1 15) < (16 : Int) := of_decide_eq_true (by first | (with_reducible assumption) | assumption)
                have hx11 := bt_at (⟨#[48, 49, 50, 51, 52, 53, 54, 55, 56, 57, 97, 98, 99, 100, 101, 102]⟩ : ByteArray) (Go.bits .and .u32 x0_1 15)
                replace p11 := eq_true p11
                replace q11 := eq_true q11
                go_wp2
                go_roundg k1
                case measure => have := HK1.out; omega
                case rel => exact ⟨(x0_1 / 16), ((Utf8.encode (bt (⟨#[48, 49, 50, 51, 52, 53, 54, 55, 56, 57, 97, 98, 99, 100, 101, 102]⟩ : ByteArray) (Go.bits .and .u32 x0_1 15))) ++ x5_1), (by first | rfl | (simp; done) | (simp [*]; done)), (by first | rfl | (simp; done) | (simp [*]; done)), H', ⟨by have := HK1.out; omega⟩, by repeat (first | exact Drawn0.refl _ | apply Drawn0.step)⟩
              · rw [if_neg c12] at H
                exact absurd H (by simp)
            · rw [if_neg c10] at H
              exact absurd H (by simp)
          · rw [if_neg c9] at H
            exact absurd H (by simp)
        · rw [if_neg c8] at H
          have c8b0 : decide ((x5_1.size : Int) < a1) = false := decide_eq_false c8
          clear c8
          obtain rfl := Option.some.inj H
          go_wp2
          go_ret
          exact ⟨by first | rfl | (simp; done) | (simp [*]; done), by repeat (first | exact Drawn0.refl _ | apply Drawn0.step)⟩

-- NOT PRINTED: function 55 (xansi_SetPalette)

-- NOT PRINTED: function 56 (xansi_Solid)

-- NOT PRINTED: function 23 (impl_Palette)

end Go.Proofs.YtjjkagjdbjpikaaDoor.PX
