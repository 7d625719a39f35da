-- Written by wip/pp.py, a program of this session, out of the translation. Not trusted: Lean checks it.
import Derived.Test.YtjjkagjdbjpikaaDoorPCx0
import Derived.Test.YtjjkagjdbjpikaaDoorPCx1
import Derived.Test.YtjjkagjdbjpikaaDoorPCx2
import Derived.Test.YtjjkagjdbjpikaaDoorPCx3
namespace Go.Proofs.YtjjkagjdbjpikaaDoor.PC
open Go.RowKit Go.Proofs.YtjjkagjdbjpikaaDoor.Or Go.Proofs.YtjjkagjdbjpikaaDoorW.PrintWords Go.Proofs.YtjjkagjdbjpikaaDoorW.PrintLast Go.Proofs.YtjjkagjdbjpikaaDoorW.PrintMore
attribute [local go_sem] max2_int min2_int max_two min_two max_three min_three max_four min_four   -- for this text's walks alone
attribute [local go_sem] Go.Proofs.YtjjkagjdbjpikaaDoor.Ext.wrap64_mod256 Go.Proofs.YtjjkagjdbjpikaaDoor.Ext.wrap64_mod32 Go.Proofs.YtjjkagjdbjpikaaDoor.Ext.i64_mod256 Go.Proofs.YtjjkagjdbjpikaaDoor.Ext.i64_mod32 Go.Proofs.YtjjkagjdbjpikaaDoor.Ext.i64_u8 Go.Proofs.YtjjkagjdbjpikaaDoor.Ext.w64_u8 Go.Proofs.YtjjkagjdbjpikaaDoor.Ext.i64_u32 Go.Proofs.YtjjkagjdbjpikaaDoor.Ext.w64_u32 
set_option linter.unusedVariables false
set_option linter.unusedSimpArgs false

/-! ### xansi_SetClipboard: function 45 -/
def xansi_SetClipboard.f (k : Nat) (a0 : Int) (a1 : ByteArray) : Option (ByteArray) := if a1.toList = ([] : List UInt8) then (if 5 + (Utf8.encode a0).size ≤ 9223372036854775807 then (if 5 + (Utf8.encode a0).size + 1 ≤ 9223372036854775807 then (if 5 + (Utf8.encode a0).size + 1 + a1.size ≤ 9223372036854775807 then (if 5 + (Utf8.encode a0).size + 1 + a1.size + 1 ≤ 9223372036854775807 then (some (((((⟨#[27, 93, 53, 50, 59]⟩ : ByteArray) ++ (Utf8.encode a0)) ++ (⟨#[59]⟩ : ByteArray)) ++ a1) ++ (⟨#[7]⟩ : ByteArray))) else (none)) else (none)) else (none)) else (none)) else ((xansi_zzBase64.f k a1).bind fun t147 => (if 5 + (Utf8.encode a0).size ≤ 9223372036854775807 then (if 5 + (Utf8.encode a0).size + 1 ≤ 9223372036854775807 then (if 5 + (Utf8.encode a0).size + 1 + t147.size ≤ 9223372036854775807 then (if 5 + (Utf8.encode a0).size + 1 + t147.size + 1 ≤ 9223372036854775807 then (some (((((⟨#[27, 93, 53, 50, 59]⟩ : ByteArray) ++ (Utf8.encode a0)) ++ (⟨#[59]⟩ : ByteArray)) ++ t147) ++ (⟨#[7]⟩ : ByteArray))) else (none)) else (none)) else (none)) else (none)))
theorem xansi_SetClipboard.mono : ∀ a0 a1 k, LeO (xansi_SetClipboard.f k a0 a1) (xansi_SetClipboard.f (k + 1) a0 a1) := by
  intro a0 a1 k
  unfold xansi_SetClipboard.f
  repeat' first
      | (with_reducible exact xansi_zzBase64.mono _ _)
      | (with_reducible exact LeO.refl _)
      | (with_reducible exact LeO.none _)
      | (with_reducible refine LeO.ite ?_ ?_)
      | (with_reducible refine LeO.bind ?_ (fun _ => ?_))
      | exact xansi_zzBase64.mono _ _
      | exact LeO.none _
      | refine LeO.ite ?_ ?_
      | refine LeO.bind ?_ (fun _ => ?_)
set_option maxHeartbeats 8000000 in
set_option maxRecDepth 100000 in
theorem xansi_SetClipboard.calls (k : Nat) (a0 : Int) (a1 : ByteArray) (r : ByteArray) (w : World) (h : xansi_SetClipboard.f k a0 a1 = some r) :
    Calls Tryd.prog 45 #[.int .u8 a0, .string a1] w fun e w' => e = .returned (.string r) ∧ Below w.heap.size w w' := by
  have HB := Aside0.mk (Below.refl w.heap.size w)
  have H : (if a1.toList = ([] : List UInt8) then (if 5 + (Utf8.encode a0).size ≤ 9223372036854775807 then (if 5 + (Utf8.encode a0).size + 1 ≤ 9223372036854775807 then (if 5 + (Utf8.encode a0).size + 1 + a1.size ≤ 9223372036854775807 then (if 5 + (Utf8.encode a0).size + 1 + a1.size + 1 ≤ 9223372036854775807 then (some (((((⟨#[27, 93, 53, 50, 59]⟩ : ByteArray) ++ (Utf8.encode a0)) ++ (⟨#[59]⟩ : ByteArray)) ++ a1) ++ (⟨#[7]⟩ : ByteArray))) else (none)) else (none)) else (none)) else (none)) else ((xansi_zzBase64.f k a1).bind fun t147 => (if 5 + (Utf8.encode a0).size ≤ 9223372036854775807 then (if 5 + (Utf8.encode a0).size + 1 ≤ 9223372036854775807 then (if 5 + (Utf8.encode a0).size + 1 + t147.size ≤ 9223372036854775807 then (if 5 + (Utf8.encode a0).size + 1 + t147.size + 1 ≤ 9223372036854775807 then (some (((((⟨#[27, 93, 53, 50, 59]⟩ : ByteArray) ++ (Utf8.encode a0)) ++ (⟨#[59]⟩ : ByteArray)) ++ t147) ++ (⟨#[7]⟩ : ByteArray))) else (none)) else (none)) else (none)) else (none)))) = some r := h
  clear h
  by_cases c3 : a1.toList = ([] : List UInt8)
  · rw [if_pos c3] at H
    have c3b0 : (a1.toList == ([] : List UInt8)) = true := beq_iff_eq.mpr c3
    have c3b1 : (a1.toList != ([] : List UInt8)) = false := bne_eq_false_iff_eq.mpr c3
    clear c3
    by_cases c4 : 5 + (Utf8.encode a0).size ≤ 9223372036854775807
    · rw [if_pos c4] at H
      have c4b0 := eq_true c4
      have c4b1 : decide (5 + (Utf8.encode a0).size ≤ 9223372036854775807) = true := decide_eq_true c4
      try have c4b2 : (9223372036854775807 < 5 + (Utf8.encode a0).size) = False := eq_false (Nat.not_lt.2 c4)
      by_cases c5 : 5 + (Utf8.encode a0).size + 1 ≤ 9223372036854775807
      · rw [if_pos c5] at H
        have c5b0 := eq_true c5
        have c5b1 : decide (5 + (Utf8.encode a0).size + 1 ≤ 9223372036854775807) = true := decide_eq_true c5
        try have c5b2 : (9223372036854775807 < 5 + (Utf8.encode a0).size + 1) = False := eq_false (Nat.not_lt.2 c5)
        by_cases c6 : 5 + (Utf8.encode a0).size + 1 + a1.size ≤ 9223372036854775807
        · rw [if_pos c6] at H
          have c6b0 := eq_true c6
          have c6b1 : decide (5 + (Utf8.encode a0).size + 1 + a1.size ≤ 9223372036854775807) = true := decide_eq_true c6
          try have c6b2 : (9223372036854775807 < 5 + (Utf8.encode a0).size + 1 + a1.size) = False := eq_false (Nat.not_lt.2 c6)
          by_cases c7 : 5 + (Utf8.encode a0).size + 1 + a1.size + 1 ≤ 9223372036854775807
          · rw [if_pos c7] at H
            have c7b0 := eq_true c7
            have c7b1 : decide (5 + (Utf8.encode a0).size + 1 + a1.size + 1 ≤ 9223372036854775807) = true := decide_eq_true c7
            try have c7b2 : (9223372036854775807 < 5 + (Utf8.encode a0).size + 1 + a1.size + 1) = False := eq_false (Nat.not_lt.2 c7)
            obtain rfl := Option.some.inj H
            go_enter Tryd.func45, Tryd.ntmps45
            go_wp2
            go_ret
            exact ⟨by first | rfl | (simp [errW_none, errW_some] <;> rfl) | (simp [*, errW_none, errW_some] <;> rfl), by repeat (first | (with_reducible first | exact HB.out | apply below_alloc | apply Go.Proofs.YtjjkagjdbjpikaaDoor.Ext.below_bytes | apply pw_below_drewN | apply below_drew1) | exact HB.out)⟩
          · rw [if_neg c7] at H
            exact absurd H (by simp)
        · rw [if_neg c6] at H
          exact absurd H (by simp)
      · rw [if_neg c5] at H
        exact absurd H (by simp)
    · rw [if_neg c4] at H
      exact absurd H (by simp)
  · rw [if_neg c3] at H
    have c3b0 : (a1.toList == ([] : List UInt8)) = false := beq_eq_false_iff_ne.mpr c3
    have c3b1 : (a1.toList != ([] : List UInt8)) = true := bne_iff_ne.mpr c3
    replace H := Option.bind_eq_some_iff.mp H
    obtain ⟨t147, A80, H⟩ := H
    replace H : (if 5 + (Utf8.encode a0).size ≤ 9223372036854775807 then (if 5 + (Utf8.encode a0).size + 1 ≤ 9223372036854775807 then (if 5 + (Utf8.encode a0).size + 1 + t147.size ≤ 9223372036854775807 then (if 5 + (Utf8.encode a0).size + 1 + t147.size + 1 ≤ 9223372036854775807 then (some (((((⟨#[27, 93, 53, 50, 59]⟩ : ByteArray) ++ (Utf8.encode a0)) ++ (⟨#[59]⟩ : ByteArray)) ++ t147) ++ (⟨#[7]⟩ : ByteArray))) else (none)) else (none)) else (none)) else (none)) = some r := H
    have A8 := Aside0.mk A80
    clear A80
    by_cases c9 : 5 + (Utf8.encode a0).size ≤ 9223372036854775807
    · rw [if_pos c9] at H
      have c9b0 := eq_true c9
      have c9b1 : decide (5 + (Utf8.encode a0).size ≤ 9223372036854775807) = true := decide_eq_true c9
      try have c9b2 : (9223372036854775807 < 5 + (Utf8.encode a0).size) = False := eq_false (Nat.not_lt.2 c9)
      by_cases c10 : 5 + (Utf8.encode a0).size + 1 ≤ 9223372036854775807
      · rw [if_pos c10] at H
        have c10b0 := eq_true c10
        have c10b1 : decide (5 + (Utf8.encode a0).size + 1 ≤ 9223372036854775807) = true := decide_eq_true c10
        try have c10b2 : (9223372036854775807 < 5 + (Utf8.encode a0).size + 1) = False := eq_false (Nat.not_lt.2 c10)
        by_cases c11 : 5 + (Utf8.encode a0).size + 1 + t147.size ≤ 9223372036854775807
        · rw [if_pos c11] at H
          have c11b0 := eq_true c11
          have c11b1 : decide (5 + (Utf8.encode a0).size + 1 + t147.size ≤ 9223372036854775807) = true := decide_eq_true c11
          try have c11b2 : (9223372036854775807 < 5 + (Utf8.encode a0).size + 1 + t147.size) = False := eq_false (Nat.not_lt.2 c11)
          by_cases c12 : 5 + (Utf8.encode a0).size + 1 + t147.size + 1 ≤ 9223372036854775807
          · rw [if_pos c12] at H
            have c12b0 := eq_true c12
            have c12b1 : decide (5 + (Utf8.encode a0).size + 1 + t147.size + 1 ≤ 9223372036854775807) = true := decide_eq_true c12
            try have c12b2 : (9223372036854775807 < 5 + (Utf8.encode a0).size + 1 + t147.size + 1) = False := eq_false (Nat.not_lt.2 c12)
            obtain rfl := Option.some.inj H
            go_enter Tryd.func45, Tryd.ntmps45
            go_wp2_with (first | ((with_reducible refine gate_callee (f := 103) rfl ?_); refine goesL_ (some 8) rfl rfl Tryd.func103 (by kernel_rfl) rfl #[.string a1] rfl (by (try simp only [List.map_toArray, List.map_cons, List.map_nil]); first | done | rfl | (simp only [List.length_drop, List.length_take]; rfl) | (simp [Act.eval, *]; done) | (simp [Act.eval, *]; unfold wrap64; omega)) ?_; (with_reducible refine (xansi_zzBase64.calls k a1 t147 _ A8.out).mono ?_); rintro e w13 ⟨rfl, hb⟩; refine ⟨_, rfl, ?_⟩; have n0_ := Aside0.mk (below_step (by repeat (first | (with_reducible first | exact HB.out | apply below_alloc | apply Go.Proofs.YtjjkagjdbjpikaaDoor.Ext.below_bytes | apply pw_below_drewN | apply below_drew1) | exact HB.out)) hb); clear HB; have HB := n0_; clear n0_; (try clear hb); (try clear hb2); (try clear hk); (try clear hi)))
            go_ret
            exact ⟨by first | rfl | (simp [errW_none, errW_some] <;> rfl) | (simp [*, errW_none, errW_some] <;> rfl), by repeat (first | (with_reducible first | exact HB.out | apply below_alloc | apply Go.Proofs.YtjjkagjdbjpikaaDoor.Ext.below_bytes | apply pw_below_drewN | apply below_drew1) | exact HB.out)⟩
          · rw [if_neg c12] at H
            exact absurd H (by simp)
        · rw [if_neg c11] at H
          exact absurd H (by simp)
      · rw [if_neg c10] at H
        exact absurd H (by simp)
    · rw [if_neg c9] at H
      exact absurd H (by simp)

/-! ### xansi_RequestClipboard: function 46 -/
def xansi_RequestClipboard.f (a0 : Int) : Option (ByteArray) := if 5 + (Utf8.encode a0).size ≤ 9223372036854775807 then (if 5 + (Utf8.encode a0).size + 3 ≤ 9223372036854775807 then (some (((⟨#[27, 93, 53, 50, 59]⟩ : ByteArray) ++ (Utf8.encode a0)) ++ (⟨#[59, 63, 7]⟩ : ByteArray))) else (none)) else (none)
set_option maxHeartbeats 8000000 in
set_option maxRecDepth 100000 in
theorem xansi_RequestClipboard.calls (a0 : Int) (r : ByteArray) (w : World) (h : xansi_RequestClipboard.f a0 = some r) :
    Calls Tryd.prog 46 #[.int .u8 a0] w fun e w' => e = .returned (.string r) ∧ Drawn0 w w' := by
  have H : (if 5 + (Utf8.encode a0).size ≤ 9223372036854775807 then (if 5 + (Utf8.encode a0).size + 3 ≤ 9223372036854775807 then (some (((⟨#[27, 93, 53, 50, 59]⟩ : ByteArray) ++ (Utf8.encode a0)) ++ (⟨#[59, 63, 7]⟩ : ByteArray))) else (none)) else (none)) = some r := h
  clear h
  by_cases c2 : 5 + (Utf8.encode a0).size ≤ 9223372036854775807
  · rw [if_pos c2] at H
    have c2b0 := eq_true c2
    have c2b1 : decide (5 + (Utf8.encode a0).size ≤ 9223372036854775807) = true := decide_eq_true c2
    try have c2b2 : (9223372036854775807 < 5 + (Utf8.encode a0).size) = False := eq_false (Nat.not_lt.2 c2)
    by_cases c3 : 5 + (Utf8.encode a0).size + 3 ≤ 9223372036854775807
    · rw [if_pos c3] at H
      have c3b0 := eq_true c3
      have c3b1 : decide (5 + (Utf8.encode a0).size + 3 ≤ 9223372036854775807) = true := decide_eq_true c3
      try have c3b2 : (9223372036854775807 < 5 + (Utf8.encode a0).size + 3) = False := eq_false (Nat.not_lt.2 c3)
      obtain rfl := Option.some.inj H
      go_enter Tryd.func46, Tryd.ntmps46
      go_wp2
      go_ret
      exact ⟨by first | rfl | (simp; done) | (simp [*]; done), by repeat (first | exact Drawn0.refl _ | apply Drawn0.step)⟩
    · rw [if_neg c3] at H
      exact absurd H (by simp)
  · rw [if_neg c2] at H
    exact absurd H (by simp)

/-! ### xansi_ResetClipboard: function 47 -/
def xansi_ResetClipboard.f (k : Nat) (a0 : Int) : Option (ByteArray) := (xansi_SetClipboard.f k a0 (⟨#[]⟩ : ByteArray)).bind fun t148 => (some t148)
theorem xansi_ResetClipboard.mono : ∀ a0 k, LeO (xansi_ResetClipboard.f k a0) (xansi_ResetClipboard.f (k + 1) a0) := by
  intro a0 k
  unfold xansi_ResetClipboard.f
  repeat' first
      | (with_reducible exact xansi_SetClipboard.mono _ _ _)
      | (with_reducible exact LeO.refl _)
      | (with_reducible exact LeO.none _)
      | (with_reducible refine LeO.ite ?_ ?_)
      | (with_reducible refine LeO.bind ?_ (fun _ => ?_))
      | exact xansi_SetClipboard.mono _ _ _
      | exact LeO.none _
      | refine LeO.ite ?_ ?_
      | refine LeO.bind ?_ (fun _ => ?_)
set_option maxHeartbeats 8000000 in
set_option maxRecDepth 100000 in
theorem xansi_ResetClipboard.calls (k : Nat) (a0 : Int) (r : ByteArray) (w : World) (h : xansi_ResetClipboard.f k a0 = some r) :
    Calls Tryd.prog 47 #[.int .u8 a0] w fun e w' => e = .returned (.string r) ∧ Below w.heap.size w w' := by
  have HB := Aside0.mk (Below.refl w.heap.size w)
  have H : ((xansi_SetClipboard.f k a0 (⟨#[]⟩ : ByteArray)).bind fun t148 => (some t148)) = some r := h
  clear h
  replace H := Option.bind_eq_some_iff.mp H
  obtain ⟨t148, A20, H⟩ := H
  replace H : (some t148) = some r := H
  have A2 := Aside0.mk A20
  clear A20
  obtain rfl := Option.some.inj H
  go_enter Tryd.func47, Tryd.ntmps47
  go_wp2_with (first | ((with_reducible refine gate_callee (f := 45) rfl ?_); refine goesL_ (some 4) rfl rfl Tryd.func45 (by kernel_rfl) rfl #[.int .u8 a0, .string (⟨#[]⟩ : ByteArray)] rfl (by (try simp only [List.map_toArray, List.map_cons, List.map_nil]); first | done | rfl | (simp only [List.length_drop, List.length_take]; rfl) | (simp [Act.eval, *]; done) | (simp [Act.eval, *]; unfold wrap64; omega)) ?_; (with_reducible refine (xansi_SetClipboard.calls k a0 (⟨#[]⟩ : ByteArray) t148 _ A2.out).mono ?_); rintro e w3 ⟨rfl, hb⟩; refine ⟨_, rfl, ?_⟩; have n0_ := Aside0.mk (below_step (by repeat (first | (with_reducible first | exact HB.out | apply below_alloc | apply Go.Proofs.YtjjkagjdbjpikaaDoor.Ext.below_bytes | apply pw_below_drewN | apply below_drew1) | exact HB.out)) hb); clear HB; have HB := n0_; clear n0_; (try clear hb); (try clear hb2); (try clear hk); (try clear hi)))
  go_ret
  exact ⟨by first | rfl | (simp [errW_none, errW_some] <;> rfl) | (simp [*, errW_none, errW_some] <;> rfl), by repeat (first | (with_reducible first | exact HB.out | apply below_alloc | apply Go.Proofs.YtjjkagjdbjpikaaDoor.Ext.below_bytes | apply pw_below_drewN | apply below_drew1) | exact HB.out)⟩

/-! ### xansi_SetSystemClipboard: function 48 -/
def xansi_SetSystemClipboard.f (k : Nat) (a0 : ByteArray) : Option (ByteArray) := (xansi_SetClipboard.f k 99 a0).bind fun t149 => (some t149)
theorem xansi_SetSystemClipboard.mono : ∀ a0 k, LeO (xansi_SetSystemClipboard.f k a0) (xansi_SetSystemClipboard.f (k + 1) a0) := by
  intro a0 k
  unfold xansi_SetSystemClipboard.f
  repeat' first
      | (with_reducible exact xansi_SetClipboard.mono _ _ _)
      | (with_reducible exact LeO.refl _)
      | (with_reducible exact LeO.none _)
      | (with_reducible refine LeO.ite ?_ ?_)
      | (with_reducible refine LeO.bind ?_ (fun _ => ?_))
      | exact xansi_SetClipboard.mono _ _ _
      | exact LeO.none _
      | refine LeO.ite ?_ ?_
      | refine LeO.bind ?_ (fun _ => ?_)
set_option maxHeartbeats 8000000 in
set_option maxRecDepth 100000 in
theorem xansi_SetSystemClipboard.calls (k : Nat) (a0 : ByteArray) (r : ByteArray) (w : World) (h : xansi_SetSystemClipboard.f k a0 = some r) :
    Calls Tryd.prog 48 #[.string a0] w fun e w' => e = .returned (.string r) ∧ Below w.heap.size w w' := by
  have HB := Aside0.mk (Below.refl w.heap.size w)
  have H : ((xansi_SetClipboard.f k 99 a0).bind fun t149 => (some t149)) = some r := h
  clear h
  replace H := Option.bind_eq_some_iff.mp H
  obtain ⟨t149, A20, H⟩ := H
  replace H : (some t149) = some r := H
  have A2 := Aside0.mk A20
  clear A20
  obtain rfl := Option.some.inj H
  go_enter Tryd.func48, Tryd.ntmps48
  go_wp2_with (first | ((with_reducible refine gate_callee (f := 45) rfl ?_); refine goesL_ (some 4) rfl rfl Tryd.func45 (by kernel_rfl) rfl #[.int .u8 99, .string a0] rfl (by (try simp only [List.map_toArray, List.map_cons, List.map_nil]); first | done | rfl | (simp only [List.length_drop, List.length_take]; rfl) | (simp [Act.eval, *]; done) | (simp [Act.eval, *]; unfold wrap64; omega)) ?_; (with_reducible refine (xansi_SetClipboard.calls k 99 a0 t149 _ A2.out).mono ?_); rintro e w3 ⟨rfl, hb⟩; refine ⟨_, rfl, ?_⟩; have n0_ := Aside0.mk (below_step (by repeat (first | (with_reducible first | exact HB.out | apply below_alloc | apply Go.Proofs.YtjjkagjdbjpikaaDoor.Ext.below_bytes | apply pw_below_drewN | apply below_drew1) | exact HB.out)) hb); clear HB; have HB := n0_; clear n0_; (try clear hb); (try clear hb2); (try clear hk); (try clear hi)))
  go_ret
  exact ⟨by first | rfl | (simp [errW_none, errW_some] <;> rfl) | (simp [*, errW_none, errW_some] <;> rfl), by repeat (first | (with_reducible first | exact HB.out | apply below_alloc | apply Go.Proofs.YtjjkagjdbjpikaaDoor.Ext.below_bytes | apply pw_below_drewN | apply below_drew1) | exact HB.out)⟩

/-! ### xansi_SetPrimaryClipboard: function 49 -/
def xansi_SetPrimaryClipboard.f (k : Nat) (a0 : ByteArray) : Option (ByteArray) := (xansi_SetClipboard.f k 112 a0).bind fun t150 => (some t150)
theorem xansi_SetPrimaryClipboard.mono : ∀ a0 k, LeO (xansi_SetPrimaryClipboard.f k a0) (xansi_SetPrimaryClipboard.f (k + 1) a0) := by
  intro a0 k
  unfold xansi_SetPrimaryClipboard.f
  repeat' first
      | (with_reducible exact xansi_SetClipboard.mono _ _ _)
      | (with_reducible exact LeO.refl _)
      | (with_reducible exact LeO.none _)
      | (with_reducible refine LeO.ite ?_ ?_)
      | (with_reducible refine LeO.bind ?_ (fun _ => ?_))
      | exact xansi_SetClipboard.mono _ _ _
      | exact LeO.none _
      | refine LeO.ite ?_ ?_
      | refine LeO.bind ?_ (fun _ => ?_)
set_option maxHeartbeats 8000000 in
set_option maxRecDepth 100000 in
theorem xansi_SetPrimaryClipboard.calls (k : Nat) (a0 : ByteArray) (r : ByteArray) (w : World) (h : xansi_SetPrimaryClipboard.f k a0 = some r) :
    Calls Tryd.prog 49 #[.string a0] w fun e w' => e = .returned (.string r) ∧ Below w.heap.size w w' := by
  have HB := Aside0.mk (Below.refl w.heap.size w)
  have H : ((xansi_SetClipboard.f k 112 a0).bind fun t150 => (some t150)) = some r := h
  clear h
  replace H := Option.bind_eq_some_iff.mp H
  obtain ⟨t150, A20, H⟩ := H
  replace H : (some t150) = some r := H
  have A2 := Aside0.mk A20
  clear A20
  obtain rfl := Option.some.inj H
  go_enter Tryd.func49, Tryd.ntmps49
  go_wp2_with (first | ((with_reducible refine gate_callee (f := 45) rfl ?_); refine goesL_ (some 4) rfl rfl Tryd.func45 (by kernel_rfl) rfl #[.int .u8 112, .string a0] rfl (by (try simp only [List.map_toArray, List.map_cons, List.map_nil]); first | done | rfl | (simp only [List.length_drop, List.length_take]; rfl) | (simp [Act.eval, *]; done) | (simp [Act.eval, *]; unfold wrap64; omega)) ?_; (with_reducible refine (xansi_SetClipboard.calls k 112 a0 t150 _ A2.out).mono ?_); rintro e w3 ⟨rfl, hb⟩; refine ⟨_, rfl, ?_⟩; have n0_ := Aside0.mk (below_step (by repeat (first | (with_reducible first | exact HB.out | apply below_alloc | apply Go.Proofs.YtjjkagjdbjpikaaDoor.Ext.below_bytes | apply pw_below_drewN | apply below_drew1) | exact HB.out)) hb); clear HB; have HB := n0_; clear n0_; (try clear hb); (try clear hb2); (try clear hk); (try clear hi)))
  go_ret
  exact ⟨by first | rfl | (simp [errW_none, errW_some] <;> rfl) | (simp [*, errW_none, errW_some] <;> rfl), by repeat (first | (with_reducible first | exact HB.out | apply below_alloc | apply Go.Proofs.YtjjkagjdbjpikaaDoor.Ext.below_bytes | apply pw_below_drewN | apply below_drew1) | exact HB.out)⟩

/-! ### impl_MakeClipboard: function 17 -/
def impl_MakeClipboard.f (k : Nat) (a0 : Int) (a1 : Int) (a2 : ByteArray) : Option (ByteArray) := if a0 = 0 then ((xansi_SetClipboard.f k a1 a2).bind fun t151 => (some t151)) else (if a0 = 1 then ((xansi_RequestClipboard.f a1).bind fun t152 => (some t152)) else (if a0 = 2 then ((xansi_ResetClipboard.f k a1).bind fun t153 => (some t153)) else (if a0 = 3 then ((xansi_SetSystemClipboard.f k a2).bind fun t154 => (some t154)) else (if a0 = 4 then ((xansi_SetPrimaryClipboard.f k a2).bind fun t155 => (some t155)) else (some (⟨#[]⟩ : ByteArray))))))
theorem impl_MakeClipboard.mono : ∀ a0 a1 a2 k, LeO (impl_MakeClipboard.f k a0 a1 a2) (impl_MakeClipboard.f (k + 1) a0 a1 a2) := by
  intro a0 a1 a2 k
  unfold impl_MakeClipboard.f
  repeat' first
      | (with_reducible exact xansi_ResetClipboard.mono _ _)
      | (with_reducible exact xansi_SetClipboard.mono _ _ _)
      | (with_reducible exact xansi_SetPrimaryClipboard.mono _ _)
      | (with_reducible exact xansi_SetSystemClipboard.mono _ _)
      | (with_reducible exact LeO.refl _)
      | (with_reducible exact LeO.none _)
      | (with_reducible refine LeO.ite ?_ ?_)
      | (with_reducible refine LeO.bind ?_ (fun _ => ?_))
      | exact xansi_ResetClipboard.mono _ _
      | exact xansi_SetClipboard.mono _ _ _
      | exact xansi_SetPrimaryClipboard.mono _ _
      | exact xansi_SetSystemClipboard.mono _ _
      | exact LeO.none _
      | refine LeO.ite ?_ ?_
      | refine LeO.bind ?_ (fun _ => ?_)
set_option maxHeartbeats 8000000 in
set_option maxRecDepth 100000 in
theorem impl_MakeClipboard.calls (k : Nat) (a0 : Int) (a1 : Int) (a2 : ByteArray) (r : ByteArray) (w : World) (h : impl_MakeClipboard.f k a0 a1 a2 = some r) :
    Calls Tryd.prog 17 #[.int .i64 a0, .int .u8 a1, .string a2] w fun e w' => e = .returned (.string r) ∧ Below w.heap.size w w' := by
  have HB := Aside0.mk (Below.refl w.heap.size w)
  have H : (if a0 = 0 then ((xansi_SetClipboard.f k a1 a2).bind fun t151 => (some t151)) else (if a0 = 1 then ((xansi_RequestClipboard.f a1).bind fun t152 => (some t152)) else (if a0 = 2 then ((xansi_ResetClipboard.f k a1).bind fun t153 => (some t153)) else (if a0 = 3 then ((xansi_SetSystemClipboard.f k a2).bind fun t154 => (some t154)) else (if a0 = 4 then ((xansi_SetPrimaryClipboard.f k a2).bind fun t155 => (some t155)) else (some (⟨#[]⟩ : ByteArray))))))) = some r := h
  clear h
  by_cases c4 : a0 = 0
  · rw [if_pos c4] at H
    have c4b0 : (a0 == 0) = true := beq_iff_eq.mpr c4
    have c4b1 : (a0 != 0) = false := bne_eq_false_iff_eq.mpr c4
    clear c4
    replace H := Option.bind_eq_some_iff.mp H
    obtain ⟨t151, A50, H⟩ := H
    replace H : (some t151) = some r := H
    have A5 := Aside0.mk A50
    clear A50
    obtain rfl := Option.some.inj H
    go_enter Tryd.func17, Tryd.ntmps17
    go_wp2_with (first | ((with_reducible refine gate_callee (f := 45) rfl ?_); refine goesL_ (some 12) rfl rfl Tryd.func45 (by kernel_rfl) rfl #[.int .u8 a1, .string a2] rfl (by (try simp only [List.map_toArray, List.map_cons, List.map_nil]); first | done | rfl | (simp only [List.length_drop, List.length_take]; rfl) | (simp [Act.eval, *]; done) | (simp [Act.eval, *]; unfold wrap64; omega)) ?_; (with_reducible refine (xansi_SetClipboard.calls k a1 a2 t151 _ A5.out).mono ?_); rintro e w6 ⟨rfl, hb⟩; refine ⟨_, rfl, ?_⟩; have n0_ := Aside0.mk (below_step (by repeat (first | (with_reducible first | exact HB.out | apply below_alloc | apply Go.Proofs.YtjjkagjdbjpikaaDoor.Ext.below_bytes | apply pw_below_drewN | apply below_drew1) | exact HB.out)) hb); clear HB; have HB := n0_; clear n0_; (try clear hb); (try clear hb2); (try clear hk); (try clear hi)))
    go_ret
    exact ⟨by first | rfl | (simp [errW_none, errW_some] <;> rfl) | (simp [*, errW_none, errW_some] <;> rfl), by repeat (first | (with_reducible first | exact HB.out | apply below_alloc | apply Go.Proofs.YtjjkagjdbjpikaaDoor.Ext.below_bytes | apply pw_below_drewN | apply below_drew1) | exact HB.out)⟩
  · rw [if_neg c4] at H
    have c4b0 : (a0 == 0) = false := beq_eq_false_iff_ne.mpr c4
    have c4b1 : (a0 != 0) = true := bne_iff_ne.mpr c4
    by_cases c7 : a0 = 1
    · rw [if_pos c7] at H
      have c7b0 : (a0 == 1) = true := beq_iff_eq.mpr c7
      have c7b1 : (a0 != 1) = false := bne_eq_false_iff_eq.mpr c7
      clear c7
      replace H := Option.bind_eq_some_iff.mp H
      obtain ⟨t152, A80, H⟩ := H
      replace H : (some t152) = some r := H
      have A8 := Aside0.mk A80
      clear A80
      obtain rfl := Option.some.inj H
      go_enter Tryd.func17, Tryd.ntmps17
      go_wp2_with (first | ((with_reducible refine gate_callee (f := 46) rfl ?_); refine goesL_ (some 16) rfl rfl Tryd.func46 (by kernel_rfl) rfl #[.int .u8 a1] rfl (by (try simp only [List.map_toArray, List.map_cons, List.map_nil]); first | done | rfl | (simp only [List.length_drop, List.length_take]; rfl) | (simp [Act.eval, *]; done) | (simp [Act.eval, *]; unfold wrap64; omega)) ?_; (with_reducible refine (xansi_RequestClipboard.calls a1 t152 _ A8.out).mono ?_); rintro e w' ⟨rfl, ⟨nd, rfl⟩⟩; refine ⟨_, rfl, ?_⟩))
      go_ret
      exact ⟨by first | rfl | (simp [errW_none, errW_some] <;> rfl) | (simp [*, errW_none, errW_some] <;> rfl), by repeat (first | (with_reducible first | exact HB.out | apply below_alloc | apply Go.Proofs.YtjjkagjdbjpikaaDoor.Ext.below_bytes | apply pw_below_drewN | apply below_drew1) | exact HB.out)⟩
    · rw [if_neg c7] at H
      have c7b0 : (a0 == 1) = false := beq_eq_false_iff_ne.mpr c7
      have c7b1 : (a0 != 1) = true := bne_iff_ne.mpr c7
      by_cases c9 : a0 = 2
      · rw [if_pos c9] at H
        have c9b0 : (a0 == 2) = true := beq_iff_eq.mpr c9
        have c9b1 : (a0 != 2) = false := bne_eq_false_iff_eq.mpr c9
        clear c9
        replace H := Option.bind_eq_some_iff.mp H
        obtain ⟨t153, A100, H⟩ := H
        replace H : (some t153) = some r := H
        have A10 := Aside0.mk A100
        clear A100
        obtain rfl := Option.some.inj H
        go_enter Tryd.func17, Tryd.ntmps17
        go_wp2_with (first | ((with_reducible refine gate_callee (f := 47) rfl ?_); refine goesL_ (some 20) rfl rfl Tryd.func47 (by kernel_rfl) rfl #[.int .u8 a1] rfl (by (try simp only [List.map_toArray, List.map_cons, List.map_nil]); first | done | rfl | (simp only [List.length_drop, List.length_take]; rfl) | (simp [Act.eval, *]; done) | (simp [Act.eval, *]; unfold wrap64; omega)) ?_; (with_reducible refine (xansi_ResetClipboard.calls k a1 t153 _ A10.out).mono ?_); rintro e w11 ⟨rfl, hb⟩; refine ⟨_, rfl, ?_⟩; have n0_ := Aside0.mk (below_step (by repeat (first | (with_reducible first | exact HB.out | apply below_alloc | apply Go.Proofs.YtjjkagjdbjpikaaDoor.Ext.below_bytes | apply pw_below_drewN | apply below_drew1) | exact HB.out)) hb); clear HB; have HB := n0_; clear n0_; (try clear hb); (try clear hb2); (try clear hk); (try clear hi)))
        go_ret
        exact ⟨by first | rfl | (simp [errW_none, errW_some] <;> rfl) | (simp [*, errW_none, errW_some] <;> rfl), by repeat (first | (with_reducible first | exact HB.out | apply below_alloc | apply Go.Proofs.YtjjkagjdbjpikaaDoor.Ext.below_bytes | apply pw_below_drewN | apply below_drew1) | exact HB.out)⟩
      · rw [if_neg c9] at H
        have c9b0 : (a0 == 2) = false := beq_eq_false_iff_ne.mpr c9
        have c9b1 : (a0 != 2) = true := bne_iff_ne.mpr c9
        by_cases c12 : a0 = 3
        · rw [if_pos c12] at H
          have c12b0 : (a0 == 3) = true := beq_iff_eq.mpr c12
          have c12b1 : (a0 != 3) = false := bne_eq_false_iff_eq.mpr c12
          clear c12
          replace H := Option.bind_eq_some_iff.mp H
          obtain ⟨t154, A130, H⟩ := H
          replace H : (some t154) = some r := H
          have A13 := Aside0.mk A130
          clear A130
          obtain rfl := Option.some.inj H
          go_enter Tryd.func17, Tryd.ntmps17
          go_wp2_with (first | ((with_reducible refine gate_callee (f := 48) rfl ?_); refine goesL_ (some 24) rfl rfl Tryd.func48 (by kernel_rfl) rfl #[.string a2] rfl (by (try simp only [List.map_toArray, List.map_cons, List.map_nil]); first | done | rfl | (simp only [List.length_drop, List.length_take]; rfl) | (simp [Act.eval, *]; done) | (simp [Act.eval, *]; unfold wrap64; omega)) ?_; (with_reducible refine (xansi_SetSystemClipboard.calls k a2 t154 _ A13.out).mono ?_); rintro e w14 ⟨rfl, hb⟩; refine ⟨_, rfl, ?_⟩; have n0_ := Aside0.mk (below_step (by repeat (first | (with_reducible first | exact HB.out | apply below_alloc | apply Go.Proofs.YtjjkagjdbjpikaaDoor.Ext.below_bytes | apply pw_below_drewN | apply below_drew1) | exact HB.out)) hb); clear HB; have HB := n0_; clear n0_; (try clear hb); (try clear hb2); (try clear hk); (try clear hi)))
          go_ret
          exact ⟨by first | rfl | (simp [errW_none, errW_some] <;> rfl) | (simp [*, errW_none, errW_some] <;> rfl), by repeat (first | (with_reducible first | exact HB.out | apply below_alloc | apply Go.Proofs.YtjjkagjdbjpikaaDoor.Ext.below_bytes | apply pw_below_drewN | apply below_drew1) | exact HB.out)⟩
        · rw [if_neg c12] at H
          have c12b0 : (a0 == 3) = false := beq_eq_false_iff_ne.mpr c12
          have c12b1 : (a0 != 3) = true := bne_iff_ne.mpr c12
          by_cases c15 : a0 = 4
          · rw [if_pos c15] at H
            have c15b0 : (a0 == 4) = true := beq_iff_eq.mpr c15
            have c15b1 : (a0 != 4) = false := bne_eq_false_iff_eq.mpr c15
            clear c15
            replace H := Option.bind_eq_some_iff.mp H
            obtain ⟨t155, A160, H⟩ := H
            replace H : (some t155) = some r := H
            have A16 := Aside0.mk A160
            clear A160
            obtain rfl := Option.some.inj H
            go_enter Tryd.func17, Tryd.ntmps17
            go_wp2_with (first | ((with_reducible refine gate_callee (f := 49) rfl ?_); refine goesL_ (some 28) rfl rfl Tryd.func49 (by kernel_rfl) rfl #[.string a2] rfl (by (try simp only [List.map_toArray, List.map_cons, List.map_nil]); first | done | rfl | (simp only [List.length_drop, List.length_take]; rfl) | (simp [Act.eval, *]; done) | (simp [Act.eval, *]; unfold wrap64; omega)) ?_; (with_reducible refine (xansi_SetPrimaryClipboard.calls k a2 t155 _ A16.out).mono ?_); rintro e w17 ⟨rfl, hb⟩; refine ⟨_, rfl, ?_⟩; have n0_ := Aside0.mk (below_step (by repeat (first | (with_reducible first | exact HB.out | apply below_alloc | apply Go.Proofs.YtjjkagjdbjpikaaDoor.Ext.below_bytes | apply pw_below_drewN | apply below_drew1) | exact HB.out)) hb); clear HB; have HB := n0_; clear n0_; (try clear hb); (try clear hb2); (try clear hk); (try clear hi)))
            go_ret
            exact ⟨by first | rfl | (simp [errW_none, errW_some] <;> rfl) | (simp [*, errW_none, errW_some] <;> rfl), by repeat (first | (with_reducible first | exact HB.out | apply below_alloc | apply Go.Proofs.YtjjkagjdbjpikaaDoor.Ext.below_bytes | apply pw_below_drewN | apply below_drew1) | exact HB.out)⟩
          · rw [if_neg c15] at H
            have c15b0 : (a0 == 4) = false := beq_eq_false_iff_ne.mpr c15
            have c15b1 : (a0 != 4) = true := bne_iff_ne.mpr c15
            obtain rfl := Option.some.inj H
            go_enter Tryd.func17, Tryd.ntmps17
            go_wp2
            go_ret
            exact ⟨by first | rfl | (simp [errW_none, errW_some] <;> rfl) | (simp [*, errW_none, errW_some] <;> rfl), by repeat (first | (with_reducible first | exact HB.out | apply below_alloc | apply Go.Proofs.YtjjkagjdbjpikaaDoor.Ext.below_bytes | apply pw_below_drewN | apply below_drew1) | exact HB.out)⟩

/-! ### spec_madeCode: function 50 -/
def spec_madeCode.f (a0 : Int) : Option (ByteArray) := if a0 < 128 then (some (strOfNums (([a0] : List Int)))) else (some (strOfNums (([Go.bits .or .u8 192 (a0 / 64), Go.bits .or .u8 128 (Go.bits .and .u8 a0 63)] : List Int))))
set_option maxHeartbeats 8000000 in
set_option maxRecDepth 100000 in
theorem spec_madeCode.calls (a0 : Int) (r : ByteArray) (w : World) (h : spec_madeCode.f a0 = some r) :
    Calls Tryd.prog 50 #[.int .u8 a0] w fun e w' => e = .returned (.string r) ∧ Below w.heap.size w w' := by
  have HB := Aside0.mk (Below.refl w.heap.size w)
  have H : (if a0 < 128 then (some (strOfNums (([a0] : List Int)))) else (some (strOfNums (([Go.bits .or .u8 192 (a0 / 64), Go.bits .or .u8 128 (Go.bits .and .u8 a0 63)] : List Int))))) = some r := h
  clear h
  by_cases c2 : a0 < 128
  · rw [if_pos c2] at H
    have c2b0 : decide (a0 < 128) = true := decide_eq_true c2
    clear c2
    obtain ⟨y156, hy156⟩ : ∃ y_ : List Int, y_ = (([a0] : List Int)) := ⟨_, rfl⟩
    replace H : (some (strOfNums y156)) = some r := by first | (rw [hy156]; with_reducible exact H) | (have H2_ := (Option.bind_some _ _).symm.trans H; rw [hy156]; with_reducible exact H2_) | (have H2_ := (Option.bind_some _ _).symm.trans H; with_reducible exact H2_) | with_reducible exact H | (rw [hy156]; exact H) | exact H
    have Ny156 := Aside0.mk hy156
    clear hy156
    obtain rfl := Option.some.inj H
    go_enter Tryd.func50, Tryd.ntmps50
    go_wp2_with (first | ((with_reducible refine gate_dst (N := 6) rfl ?_); refine Kd.R_lit (Kd.int .u8) _ 5 ?hg (N := 6) ?hd (xs := ([a0] : List Int)) (inner := [.int .u8 a0]) (ok := fun _ => True) (okp := fun _ => True) ?hr ?hp (fun _ hk => hk) trivial (Below.refl _ _) (Nat.le_refl _) (by simp) ?_; (case hd => rfl); (case hg => rfl); (case hr => first | (go_simp; done) | (go_simp; rfl)); (case hp => exact (Reps.one (show Kd.M (Kd.int .u8) _ _ _ a0 [.int .u8 a0] from rfl) (Reps.none _ _))); intro v157 w3 ho4 hb hg_ hnew_; clear hg_ hnew_; (first | rw [← Ny156.out] at ho4 | (simp only [Int.reduceToNat] at ho4; rw [← Ny156.out] at ho4)); have n0_ := Aside0.mk (Kd.R_lower ho4 (below_size (by repeat (first | (with_reducible first | exact HB.out | apply below_alloc | apply Go.Proofs.YtjjkagjdbjpikaaDoor.Ext.below_bytes | apply pw_below_drewN | apply below_drew1) | exact HB.out)))); have n1_ := Aside0.mk (below_step (by repeat (first | (with_reducible first | exact HB.out | apply below_alloc | apply Go.Proofs.YtjjkagjdbjpikaaDoor.Ext.below_bytes | apply pw_below_drewN | apply below_drew1) | exact HB.out)) hb); clear HB; have HO158 := n0_; have HB := n1_; clear n0_ n1_; clear hb ho4; have hcv5 := own_string (P := Tryd.prog) Tryd.underlying32 Tryd.underlying5 Tryd.underlying9 (Kd.own_of_R HO158.out)))
    go_ret
    exact ⟨by first | rfl | (simp [errW_none, errW_some] <;> rfl) | (simp [*, errW_none, errW_some] <;> rfl), by repeat (first | (with_reducible first | exact HB.out | apply below_alloc | apply Go.Proofs.YtjjkagjdbjpikaaDoor.Ext.below_bytes | apply pw_below_drewN | apply below_drew1) | exact HB.out)⟩
  · rw [if_neg c2] at H
    have c2b0 : decide (a0 < 128) = false := decide_eq_false c2
    clear c2
    obtain ⟨y159, hy159⟩ : ∃ y_ : List Int, y_ = (([Go.bits .or .u8 192 (a0 / 64), Go.bits .or .u8 128 (Go.bits .and .u8 a0 63)] : List Int)) := ⟨_, rfl⟩
    replace H : (some (strOfNums y159)) = some r := by first | (rw [hy159]; with_reducible exact H) | (have H2_ := (Option.bind_some _ _).symm.trans H; rw [hy159]; with_reducible exact H2_) | (have H2_ := (Option.bind_some _ _).symm.trans H; with_reducible exact H2_) | with_reducible exact H | (rw [hy159]; exact H) | exact H
    have Ny159 := Aside0.mk hy159
    clear hy159
    obtain rfl := Option.some.inj H
    go_enter Tryd.func50, Tryd.ntmps50
    go_wp2_with (first | ((with_reducible refine gate_dst (N := 14) rfl ?_); refine Kd.R_lit (Kd.int .u8) _ 5 ?hg (N := 14) ?hd (xs := ([Go.bits .or .u8 192 (a0 / 64), Go.bits .or .u8 128 (Go.bits .and .u8 a0 63)] : List Int)) (inner := [.int .u8 (Go.bits .or .u8 192 (a0 / 64)), .int .u8 (Go.bits .or .u8 128 (Go.bits .and .u8 a0 63))]) (ok := fun _ => True) (okp := fun _ => True) ?hr ?hp (fun _ hk => hk) trivial (Below.refl _ _) (Nat.le_refl _) (by simp) ?_; (case hd => rfl); (case hg => rfl); (case hr => first | (go_simp; done) | (go_simp; rfl)); (case hp => exact (Reps.one (show Kd.M (Kd.int .u8) _ _ _ (Go.bits .or .u8 192 (a0 / 64)) [.int .u8 (Go.bits .or .u8 192 (a0 / 64))] from rfl) (Reps.one (show Kd.M (Kd.int .u8) _ _ _ (Go.bits .or .u8 128 (Go.bits .and .u8 a0 63)) [.int .u8 (Go.bits .or .u8 128 (Go.bits .and .u8 a0 63))] from rfl) (Reps.none _ _)))); intro v160 w6 ho7 hb hg_ hnew_; clear hg_ hnew_; (first | rw [← Ny159.out] at ho7 | (simp only [Int.reduceToNat] at ho7; rw [← Ny159.out] at ho7)); have n0_ := Aside0.mk (Kd.R_lower ho7 (below_size (by repeat (first | (with_reducible first | exact HB.out | apply below_alloc | apply Go.Proofs.YtjjkagjdbjpikaaDoor.Ext.below_bytes | apply pw_below_drewN | apply below_drew1) | exact HB.out)))); have n1_ := Aside0.mk (below_step (by repeat (first | (with_reducible first | exact HB.out | apply below_alloc | apply Go.Proofs.YtjjkagjdbjpikaaDoor.Ext.below_bytes | apply pw_below_drewN | apply below_drew1) | exact HB.out)) hb); clear HB; have HO161 := n0_; have HB := n1_; clear n0_ n1_; clear hb ho7; have hcv8 := own_string (P := Tryd.prog) Tryd.underlying32 Tryd.underlying5 Tryd.underlying9 (Kd.own_of_R HO161.out)))
    go_ret
    exact ⟨by first | rfl | (simp [errW_none, errW_some] <;> rfl) | (simp [*, errW_none, errW_some] <;> rfl), by repeat (first | (with_reducible first | exact HB.out | apply below_alloc | apply Go.Proofs.YtjjkagjdbjpikaaDoor.Ext.below_bytes | apply pw_below_drewN | apply below_drew1) | exact HB.out)⟩

/-! ### spec_MadeClipboard: function 18 -/
def spec_MadeClipboard.f (a0 : Int) (a1 : Int) (a2 : ByteArray) : Option (ByteArray) := if a0 = 1 then ((spec_madeCode.f a1).bind fun t162 => (if 5 + t162.size ≤ 9223372036854775807 then (if 5 + t162.size + 3 ≤ 9223372036854775807 then (some (((⟨#[27, 93, 53, 50, 59]⟩ : ByteArray) ++ t162) ++ (⟨#[59, 63, 7]⟩ : ByteArray))) else (none)) else (none))) else (if a0 = 2 then ((spec_madeCode.f a1).bind fun t163 => (if 5 + t163.size ≤ 9223372036854775807 then (if 5 + t163.size + 1 ≤ 9223372036854775807 then (if (⟨#[]⟩ : ByteArray).size ≤ 9223372036854775807 then ((spec_Base64.f (bytesOf (⟨#[]⟩ : ByteArray))).bind fun t164 => (if 5 + t163.size + 1 + t164.size ≤ 9223372036854775807 then (if 5 + t163.size + 1 + t164.size + 1 ≤ 9223372036854775807 then (some (((((⟨#[27, 93, 53, 50, 59]⟩ : ByteArray) ++ t163) ++ (⟨#[59]⟩ : ByteArray)) ++ t164) ++ (⟨#[7]⟩ : ByteArray))) else (none)) else (none))) else (none)) else (none)) else (none))) else (if a0 = 3 then ((spec_madeCode.f 99).bind fun t165 => (if 5 + t165.size ≤ 9223372036854775807 then (if 5 + t165.size + 1 ≤ 9223372036854775807 then (if a2.size ≤ 9223372036854775807 then ((spec_Base64.f (bytesOf a2)).bind fun t166 => (if 5 + t165.size + 1 + t166.size ≤ 9223372036854775807 then (if 5 + t165.size + 1 + t166.size + 1 ≤ 9223372036854775807 then (some (((((⟨#[27, 93, 53, 50, 59]⟩ : ByteArray) ++ t165) ++ (⟨#[59]⟩ : ByteArray)) ++ t166) ++ (⟨#[7]⟩ : ByteArray))) else (none)) else (none))) else (none)) else (none)) else (none))) else (if a0 = 4 then ((spec_madeCode.f 112).bind fun t167 => (if 5 + t167.size ≤ 9223372036854775807 then (if 5 + t167.size + 1 ≤ 9223372036854775807 then (if a2.size ≤ 9223372036854775807 then ((spec_Base64.f (bytesOf a2)).bind fun t168 => (if 5 + t167.size + 1 + t168.size ≤ 9223372036854775807 then (if 5 + t167.size + 1 + t168.size + 1 ≤ 9223372036854775807 then (some (((((⟨#[27, 93, 53, 50, 59]⟩ : ByteArray) ++ t167) ++ (⟨#[59]⟩ : ByteArray)) ++ t168) ++ (⟨#[7]⟩ : ByteArray))) else (none)) else (none))) else (none)) else (none)) else (none))) else ((spec_madeCode.f a1).bind fun t169 => (if 5 + t169.size ≤ 9223372036854775807 then (if 5 + t169.size + 1 ≤ 9223372036854775807 then (if a2.size ≤ 9223372036854775807 then ((spec_Base64.f (bytesOf a2)).bind fun t170 => (if 5 + t169.size + 1 + t170.size ≤ 9223372036854775807 then (if 5 + t169.size + 1 + t170.size + 1 ≤ 9223372036854775807 then (some (((((⟨#[27, 93, 53, 50, 59]⟩ : ByteArray) ++ t169) ++ (⟨#[59]⟩ : ByteArray)) ++ t170) ++ (⟨#[7]⟩ : ByteArray))) else (none)) else (none))) else (none)) else (none)) else (none))))))
set_option maxHeartbeats 8000000 in
set_option maxRecDepth 100000 in
theorem spec_MadeClipboard.calls (a0 : Int) (a1 : Int) (a2 : ByteArray) (r : ByteArray) (w : World) (h : spec_MadeClipboard.f a0 a1 a2 = some r) :
    Calls Tryd.prog 18 #[.int .i64 a0, .int .u8 a1, .string a2] w fun e w' => e = .returned (.string r) ∧ Below w.heap.size w w' := by
  have kb_9_32 := fun (s : ByteArray) (W : World) => print_bytes (P := Tryd.prog) 9 32 5 Tryd.underlying9 Tryd.underlying32 Tryd.underlying5 s W
  have HB := Aside0.mk (Below.refl w.heap.size w)
  have H : (if a0 = 1 then ((spec_madeCode.f a1).bind fun t162 => (if 5 + t162.size ≤ 9223372036854775807 then (if 5 + t162.size + 3 ≤ 9223372036854775807 then (some (((⟨#[27, 93, 53, 50, 59]⟩ : ByteArray) ++ t162) ++ (⟨#[59, 63, 7]⟩ : ByteArray))) else (none)) else (none))) else (if a0 = 2 then ((spec_madeCode.f a1).bind fun t163 => (if 5 + t163.size ≤ 9223372036854775807 then (if 5 + t163.size + 1 ≤ 9223372036854775807 then (if (⟨#[]⟩ : ByteArray).size ≤ 9223372036854775807 then ((spec_Base64.f (bytesOf (⟨#[]⟩ : ByteArray))).bind fun t164 => (if 5 + t163.size + 1 + t164.size ≤ 9223372036854775807 then (if 5 + t163.size + 1 + t164.size + 1 ≤ 9223372036854775807 then (some (((((⟨#[27, 93, 53, 50, 59]⟩ : ByteArray) ++ t163) ++ (⟨#[59]⟩ : ByteArray)) ++ t164) ++ (⟨#[7]⟩ : ByteArray))) else (none)) else (none))) else (none)) else (none)) else (none))) else (if a0 = 3 then ((spec_madeCode.f 99).bind fun t165 => (if 5 + t165.size ≤ 9223372036854775807 then (if 5 + t165.size + 1 ≤ 9223372036854775807 then (if a2.size ≤ 9223372036854775807 then ((spec_Base64.f (bytesOf a2)).bind fun t166 => (if 5 + t165.size + 1 + t166.size ≤ 9223372036854775807 then (if 5 + t165.size + 1 + t166.size + 1 ≤ 9223372036854775807 then (some (((((⟨#[27, 93, 53, 50, 59]⟩ : ByteArray) ++ t165) ++ (⟨#[59]⟩ : ByteArray)) ++ t166) ++ (⟨#[7]⟩ : ByteArray))) else (none)) else (none))) else (none)) else (none)) else (none))) else (if a0 = 4 then ((spec_madeCode.f 112).bind fun t167 => (if 5 + t167.size ≤ 9223372036854775807 then (if 5 + t167.size + 1 ≤ 9223372036854775807 then (if a2.size ≤ 9223372036854775807 then ((spec_Base64.f (bytesOf a2)).bind fun t168 => (if 5 + t167.size + 1 + t168.size ≤ 9223372036854775807 then (if 5 + t167.size + 1 + t168.size + 1 ≤ 9223372036854775807 then (some (((((⟨#[27, 93, 53, 50, 59]⟩ : ByteArray) ++ t167) ++ (⟨#[59]⟩ : ByteArray)) ++ t168) ++ (⟨#[7]⟩ : ByteArray))) else (none)) else (none))) else (none)) else (none)) else (none))) else ((spec_madeCode.f a1).bind fun t169 => (if 5 + t169.size ≤ 9223372036854775807 then (if 5 + t169.size + 1 ≤ 9223372036854775807 then (if a2.size ≤ 9223372036854775807 then ((spec_Base64.f (bytesOf a2)).bind fun t170 => (if 5 + t169.size + 1 + t170.size ≤ 9223372036854775807 then (if 5 + t169.size + 1 + t170.size + 1 ≤ 9223372036854775807 then (some (((((⟨#[27, 93, 53, 50, 59]⟩ : ByteArray) ++ t169) ++ (⟨#[59]⟩ : ByteArray)) ++ t170) ++ (⟨#[7]⟩ : ByteArray))) else (none)) else (none))) else (none)) else (none)) else (none))))))) = some r := h
  clear h
  by_cases c4 : a0 = 1
  · rw [if_pos c4] at H
    have c4b0 : (a0 == 1) = true := beq_iff_eq.mpr c4
    have c4b1 : (a0 != 1) = false := bne_eq_false_iff_eq.mpr c4
    clear c4
    replace H := Option.bind_eq_some_iff.mp H
    obtain ⟨t162, A50, H⟩ := H
    replace H : (if 5 + t162.size ≤ 9223372036854775807 then (if 5 + t162.size + 3 ≤ 9223372036854775807 then (some (((⟨#[27, 93, 53, 50, 59]⟩ : ByteArray) ++ t162) ++ (⟨#[59, 63, 7]⟩ : ByteArray))) else (none)) else (none)) = some r := H
    have A5 := Aside0.mk A50
    clear A50
    by_cases c6 : 5 + t162.size ≤ 9223372036854775807
    · rw [if_pos c6] at H
      have c6b0 := eq_true c6
      have c6b1 : decide (5 + t162.size ≤ 9223372036854775807) = true := decide_eq_true c6
      try have c6b2 : (9223372036854775807 < 5 + t162.size) = False := eq_false (Nat.not_lt.2 c6)
      by_cases c7 : 5 + t162.size + 3 ≤ 9223372036854775807
      · rw [if_pos c7] at H
        have c7b0 := eq_true c7
        have c7b1 : decide (5 + t162.size + 3 ≤ 9223372036854775807) = true := decide_eq_true c7
        try have c7b2 : (9223372036854775807 < 5 + t162.size + 3) = False := eq_false (Nat.not_lt.2 c7)
        obtain rfl := Option.some.inj H
        go_enter Tryd.func18, Tryd.ntmps18
        go_wp2_with (first | ((with_reducible refine gate_callee (f := 50) rfl ?_); refine goesL_ (some 11) rfl rfl Tryd.func50 (by kernel_rfl) rfl #[.int .u8 a1] rfl (by (try simp only [List.map_toArray, List.map_cons, List.map_nil]); first | done | rfl | (simp only [List.length_drop, List.length_take]; rfl) | (simp [Act.eval, *]; done) | (simp [Act.eval, *]; unfold wrap64; omega)) ?_; (with_reducible refine (spec_madeCode.calls a1 t162 _ A5.out).mono ?_); rintro e w8 ⟨rfl, hb⟩; refine ⟨_, rfl, ?_⟩; have n0_ := Aside0.mk (below_step (by repeat (first | (with_reducible first | exact HB.out | apply below_alloc | apply Go.Proofs.YtjjkagjdbjpikaaDoor.Ext.below_bytes | apply pw_below_drewN | apply below_drew1) | exact HB.out)) hb); clear HB; have HB := n0_; clear n0_; (try clear hb); (try clear hb2); (try clear hk); (try clear hi)))
        go_ret
        exact ⟨by first | rfl | (simp [errW_none, errW_some] <;> rfl) | (simp [*, errW_none, errW_some] <;> rfl), by repeat (first | (with_reducible first | exact HB.out | apply below_alloc | apply Go.Proofs.YtjjkagjdbjpikaaDoor.Ext.below_bytes | apply pw_below_drewN | apply below_drew1) | exact HB.out)⟩
      · rw [if_neg c7] at H
        exact absurd H (by simp)
    · rw [if_neg c6] at H
      exact absurd H (by simp)
  · rw [if_neg c4] at H
    have c4b0 : (a0 == 1) = false := beq_eq_false_iff_ne.mpr c4
    have c4b1 : (a0 != 1) = true := bne_iff_ne.mpr c4
    by_cases c9 : a0 = 2
    · rw [if_pos c9] at H
      have c9b0 : (a0 == 2) = true := beq_iff_eq.mpr c9
      have c9b1 : (a0 != 2) = false := bne_eq_false_iff_eq.mpr c9
      clear c9
      replace H := Option.bind_eq_some_iff.mp H
      obtain ⟨t163, A100, H⟩ := H
      replace H : (if 5 + t163.size ≤ 9223372036854775807 then (if 5 + t163.size + 1 ≤ 9223372036854775807 then (if (⟨#[]⟩ : ByteArray).size ≤ 9223372036854775807 then ((spec_Base64.f (bytesOf (⟨#[]⟩ : ByteArray))).bind fun t164 => (if 5 + t163.size + 1 + t164.size ≤ 9223372036854775807 then (if 5 + t163.size + 1 + t164.size + 1 ≤ 9223372036854775807 then (some (((((⟨#[27, 93, 53, 50, 59]⟩ : ByteArray) ++ t163) ++ (⟨#[59]⟩ : ByteArray)) ++ t164) ++ (⟨#[7]⟩ : ByteArray))) else (none)) else (none))) else (none)) else (none)) else (none)) = some r := H
      have A10 := Aside0.mk A100
      clear A100
      by_cases c11 : 5 + t163.size ≤ 9223372036854775807
      · rw [if_pos c11] at H
        have c11b0 := eq_true c11
        have c11b1 : decide (5 + t163.size ≤ 9223372036854775807) = true := decide_eq_true c11
        try have c11b2 : (9223372036854775807 < 5 + t163.size) = False := eq_false (Nat.not_lt.2 c11)
        by_cases c12 : 5 + t163.size + 1 ≤ 9223372036854775807
        · rw [if_pos c12] at H
          have c12b0 := eq_true c12
          have c12b1 : decide (5 + t163.size + 1 ≤ 9223372036854775807) = true := decide_eq_true c12
          try have c12b2 : (9223372036854775807 < 5 + t163.size + 1) = False := eq_false (Nat.not_lt.2 c12)
          by_cases c13 : (⟨#[]⟩ : ByteArray).size ≤ 9223372036854775807
          · rw [if_pos c13] at H
            have c13b0 := eq_true c13
            have c13b1 : decide ((⟨#[]⟩ : ByteArray).size ≤ 9223372036854775807) = true := decide_eq_true c13
            try have c13b2 : (9223372036854775807 < (⟨#[]⟩ : ByteArray).size) = False := eq_false (Nat.not_lt.2 c13)
            clear c13
            replace H := Option.bind_eq_some_iff.mp H
            obtain ⟨t164, A140, H⟩ := H
            replace H : (if 5 + t163.size + 1 + t164.size ≤ 9223372036854775807 then (if 5 + t163.size + 1 + t164.size + 1 ≤ 9223372036854775807 then (some (((((⟨#[27, 93, 53, 50, 59]⟩ : ByteArray) ++ t163) ++ (⟨#[59]⟩ : ByteArray)) ++ t164) ++ (⟨#[7]⟩ : ByteArray))) else (none)) else (none)) = some r := H
            have A14 := Aside0.mk A140
            clear A140
            by_cases c15 : 5 + t163.size + 1 + t164.size ≤ 9223372036854775807
            · rw [if_pos c15] at H
              have c15b0 := eq_true c15
              have c15b1 : decide (5 + t163.size + 1 + t164.size ≤ 9223372036854775807) = true := decide_eq_true c15
              try have c15b2 : (9223372036854775807 < 5 + t163.size + 1 + t164.size) = False := eq_false (Nat.not_lt.2 c15)
              by_cases c16 : 5 + t163.size + 1 + t164.size + 1 ≤ 9223372036854775807
              · rw [if_pos c16] at H
                have c16b0 := eq_true c16
                have c16b1 : decide (5 + t163.size + 1 + t164.size + 1 ≤ 9223372036854775807) = true := decide_eq_true c16
                try have c16b2 : (9223372036854775807 < 5 + t163.size + 1 + t164.size + 1) = False := eq_false (Nat.not_lt.2 c16)
                obtain rfl := Option.some.inj H
                go_enter Tryd.func18, Tryd.ntmps18
                go_wp2_with (first | ((with_reducible refine gate_callee (f := 50) rfl ?_); refine goesL_ (some 21) rfl rfl Tryd.func50 (by kernel_rfl) rfl #[.int .u8 a1] rfl (by (try simp only [List.map_toArray, List.map_cons, List.map_nil]); first | done | rfl | (simp only [List.length_drop, List.length_take]; rfl) | (simp [Act.eval, *]; done) | (simp [Act.eval, *]; unfold wrap64; omega)) ?_; (with_reducible refine (spec_madeCode.calls a1 t163 _ A10.out).mono ?_); rintro e w17 ⟨rfl, hb⟩; refine ⟨_, rfl, ?_⟩; have n0_ := Aside0.mk (below_step (by repeat (first | (with_reducible first | exact HB.out | apply below_alloc | apply Go.Proofs.YtjjkagjdbjpikaaDoor.Ext.below_bytes | apply pw_below_drewN | apply below_drew1) | exact HB.out)) hb); clear HB; have HB := n0_; clear n0_; (try clear hb); (try clear hb2); (try clear hk); (try clear hi)) | (go_at_call 51; (refine (spec_Base64.calls _ _ (bytesOf (⟨#[]⟩ : ByteArray)) t164 _ ?side1 ?side2 A14.out).mono ?_); (case side1 => exact Go.Proofs.YtjjkagjdbjpikaaDoor.Ext.C_bytes _ _ (⟨#[]⟩ : ByteArray) (of_decide_eq_true (by first | (with_reducible assumption) | assumption))); (case side2 => exact Go.Proofs.YtjjkagjdbjpikaaDoor.Ext.bytes_room _ _ _); rintro e w18 ⟨rfl, hb⟩; have n0_ := Aside0.mk (below_step (by repeat (first | (with_reducible first | exact HB.out | apply below_alloc | apply Go.Proofs.YtjjkagjdbjpikaaDoor.Ext.below_bytes | apply pw_below_drewN | apply below_drew1) | exact HB.out)) hb); clear HB; have HB := n0_; clear n0_; (try clear hb); (try clear hb2); (try clear hk); (try clear hi)))
                go_ret
                exact ⟨by first | rfl | (simp [errW_none, errW_some] <;> rfl) | (simp [*, errW_none, errW_some] <;> rfl), by repeat (first | (with_reducible first | exact HB.out | apply below_alloc | apply Go.Proofs.YtjjkagjdbjpikaaDoor.Ext.below_bytes | apply pw_below_drewN | apply below_drew1) | exact HB.out)⟩
              · rw [if_neg c16] at H
                exact absurd H (by simp)
            · rw [if_neg c15] at H
              exact absurd H (by simp)
          · rw [if_neg c13] at H
            exact absurd H (by simp)
        · rw [if_neg c12] at H
          exact absurd H (by simp)
      · rw [if_neg c11] at H
        exact absurd H (by simp)
    · rw [if_neg c9] at H
      have c9b0 : (a0 == 2) = false := beq_eq_false_iff_ne.mpr c9
      have c9b1 : (a0 != 2) = true := bne_iff_ne.mpr c9
      by_cases c19 : a0 = 3
      · rw [if_pos c19] at H
        have c19b0 : (a0 == 3) = true := beq_iff_eq.mpr c19
        have c19b1 : (a0 != 3) = false := bne_eq_false_iff_eq.mpr c19
        clear c19
        replace H := Option.bind_eq_some_iff.mp H
        obtain ⟨t165, A200, H⟩ := H
        replace H : (if 5 + t165.size ≤ 9223372036854775807 then (if 5 + t165.size + 1 ≤ 9223372036854775807 then (if a2.size ≤ 9223372036854775807 then ((spec_Base64.f (bytesOf a2)).bind fun t166 => (if 5 + t165.size + 1 + t166.size ≤ 9223372036854775807 then (if 5 + t165.size + 1 + t166.size + 1 ≤ 9223372036854775807 then (some (((((⟨#[27, 93, 53, 50, 59]⟩ : ByteArray) ++ t165) ++ (⟨#[59]⟩ : ByteArray)) ++ t166) ++ (⟨#[7]⟩ : ByteArray))) else (none)) else (none))) else (none)) else (none)) else (none)) = some r := H
        have A20 := Aside0.mk A200
        clear A200
        by_cases c21 : 5 + t165.size ≤ 9223372036854775807
        · rw [if_pos c21] at H
          have c21b0 := eq_true c21
          have c21b1 : decide (5 + t165.size ≤ 9223372036854775807) = true := decide_eq_true c21
          try have c21b2 : (9223372036854775807 < 5 + t165.size) = False := eq_false (Nat.not_lt.2 c21)
          by_cases c22 : 5 + t165.size + 1 ≤ 9223372036854775807
          · rw [if_pos c22] at H
            have c22b0 := eq_true c22
            have c22b1 : decide (5 + t165.size + 1 ≤ 9223372036854775807) = true := decide_eq_true c22
            try have c22b2 : (9223372036854775807 < 5 + t165.size + 1) = False := eq_false (Nat.not_lt.2 c22)
            by_cases c23 : a2.size ≤ 9223372036854775807
            · rw [if_pos c23] at H
              have c23b0 := eq_true c23
              have c23b1 : decide (a2.size ≤ 9223372036854775807) = true := decide_eq_true c23
              try have c23b2 : (9223372036854775807 < a2.size) = False := eq_false (Nat.not_lt.2 c23)
              clear c23
              replace H := Option.bind_eq_some_iff.mp H
              obtain ⟨t166, A240, H⟩ := H
              replace H : (if 5 + t165.size + 1 + t166.size ≤ 9223372036854775807 then (if 5 + t165.size + 1 + t166.size + 1 ≤ 9223372036854775807 then (some (((((⟨#[27, 93, 53, 50, 59]⟩ : ByteArray) ++ t165) ++ (⟨#[59]⟩ : ByteArray)) ++ t166) ++ (⟨#[7]⟩ : ByteArray))) else (none)) else (none)) = some r := H
              have A24 := Aside0.mk A240
              clear A240
              by_cases c25 : 5 + t165.size + 1 + t166.size ≤ 9223372036854775807
              · rw [if_pos c25] at H
                have c25b0 := eq_true c25
                have c25b1 : decide (5 + t165.size + 1 + t166.size ≤ 9223372036854775807) = true := decide_eq_true c25
                try have c25b2 : (9223372036854775807 < 5 + t165.size + 1 + t166.size) = False := eq_false (Nat.not_lt.2 c25)
                by_cases c26 : 5 + t165.size + 1 + t166.size + 1 ≤ 9223372036854775807
                · rw [if_pos c26] at H
                  have c26b0 := eq_true c26
                  have c26b1 : decide (5 + t165.size + 1 + t166.size + 1 ≤ 9223372036854775807) = true := decide_eq_true c26
                  try have c26b2 : (9223372036854775807 < 5 + t165.size + 1 + t166.size + 1) = False := eq_false (Nat.not_lt.2 c26)
                  obtain rfl := Option.some.inj H
                  go_enter Tryd.func18, Tryd.ntmps18
                  go_wp2_with (first | ((with_reducible refine gate_callee (f := 50) rfl ?_); refine goesL_ (some 21) rfl rfl Tryd.func50 (by kernel_rfl) rfl #[.int .u8 99] rfl (by (try simp only [List.map_toArray, List.map_cons, List.map_nil]); first | done | rfl | (simp only [List.length_drop, List.length_take]; rfl) | (simp [Act.eval, *]; done) | (simp [Act.eval, *]; unfold wrap64; omega)) ?_; (with_reducible refine (spec_madeCode.calls 99 t165 _ A20.out).mono ?_); rintro e w27 ⟨rfl, hb⟩; refine ⟨_, rfl, ?_⟩; have n0_ := Aside0.mk (below_step (by repeat (first | (with_reducible first | exact HB.out | apply below_alloc | apply Go.Proofs.YtjjkagjdbjpikaaDoor.Ext.below_bytes | apply pw_below_drewN | apply below_drew1) | exact HB.out)) hb); clear HB; have HB := n0_; clear n0_; (try clear hb); (try clear hb2); (try clear hk); (try clear hi)) | (go_at_call 51; (with_reducible refine Go.Proofs.YtjjkagjdbjpikaaDoor.Ext.calls_len (m := (bytesOf a2).length) (k := (a2).size) (bytesOf_length _) rfl ?_); (refine (spec_Base64.calls _ _ (bytesOf a2) t166 _ ?side1 ?side2 A24.out).mono ?_); (case side1 => exact Go.Proofs.YtjjkagjdbjpikaaDoor.Ext.C_bytes _ _ a2 (of_decide_eq_true (by first | (with_reducible assumption) | assumption))); (case side2 => exact Go.Proofs.YtjjkagjdbjpikaaDoor.Ext.bytes_room _ _ _); rintro e w28 ⟨rfl, hb⟩; have n0_ := Aside0.mk (below_step (by repeat (first | (with_reducible first | exact HB.out | apply below_alloc | apply Go.Proofs.YtjjkagjdbjpikaaDoor.Ext.below_bytes | apply pw_below_drewN | apply below_drew1) | exact HB.out)) hb); clear HB; have HB := n0_; clear n0_; (try clear hb); (try clear hb2); (try clear hk); (try clear hi)))
                  go_ret
                  exact ⟨by first | rfl | (simp [errW_none, errW_some] <;> rfl) | (simp [*, errW_none, errW_some] <;> rfl), by repeat (first | (with_reducible first | exact HB.out | apply below_alloc | apply Go.Proofs.YtjjkagjdbjpikaaDoor.Ext.below_bytes | apply pw_below_drewN | apply below_drew1) | exact HB.out)⟩
                · rw [if_neg c26] at H
                  exact absurd H (by simp)
              · rw [if_neg c25] at H
                exact absurd H (by simp)
            · rw [if_neg c23] at H
              exact absurd H (by simp)
          · rw [if_neg c22] at H
            exact absurd H (by simp)
        · rw [if_neg c21] at H
          exact absurd H (by simp)
      · rw [if_neg c19] at H
        have c19b0 : (a0 == 3) = false := beq_eq_false_iff_ne.mpr c19
        have c19b1 : (a0 != 3) = true := bne_iff_ne.mpr c19
        by_cases c29 : a0 = 4
        · rw [if_pos c29] at H
          have c29b0 : (a0 == 4) = true := beq_iff_eq.mpr c29
          have c29b1 : (a0 != 4) = false := bne_eq_false_iff_eq.mpr c29
          clear c29
          replace H := Option.bind_eq_some_iff.mp H
          obtain ⟨t167, A300, H⟩ := H
          replace H : (if 5 + t167.size ≤ 9223372036854775807 then (if 5 + t167.size + 1 ≤ 9223372036854775807 then (if a2.size ≤ 9223372036854775807 then ((spec_Base64.f (bytesOf a2)).bind fun t168 => (if 5 + t167.size + 1 + t168.size ≤ 9223372036854775807 then (if 5 + t167.size + 1 + t168.size + 1 ≤ 9223372036854775807 then (some (((((⟨#[27, 93, 53, 50, 59]⟩ : ByteArray) ++ t167) ++ (⟨#[59]⟩ : ByteArray)) ++ t168) ++ (⟨#[7]⟩ : ByteArray))) else (none)) else (none))) else (none)) else (none)) else (none)) = some r := H
          have A30 := Aside0.mk A300
          clear A300
          by_cases c31 : 5 + t167.size ≤ 9223372036854775807
          · rw [if_pos c31] at H
            have c31b0 := eq_true c31
            have c31b1 : decide (5 + t167.size ≤ 9223372036854775807) = true := decide_eq_true c31
            try have c31b2 : (9223372036854775807 < 5 + t167.size) = False := eq_false (Nat.not_lt.2 c31)
            by_cases c32 : 5 + t167.size + 1 ≤ 9223372036854775807
            · rw [if_pos c32] at H
              have c32b0 := eq_true c32
              have c32b1 : decide (5 + t167.size + 1 ≤ 9223372036854775807) = true := decide_eq_true c32
              try have c32b2 : (9223372036854775807 < 5 + t167.size + 1) = False := eq_false (Nat.not_lt.2 c32)
              by_cases c33 : a2.size ≤ 9223372036854775807
              · rw [if_pos c33] at H
                have c33b0 := eq_true c33
                have c33b1 : decide (a2.size ≤ 9223372036854775807) = true := decide_eq_true c33
                try have c33b2 : (9223372036854775807 < a2.size) = False := eq_false (Nat.not_lt.2 c33)
                clear c33
                replace H := Option.bind_eq_some_iff.mp H
                obtain ⟨t168, A340, H⟩ := H
                replace H : (if 5 + t167.size + 1 + t168.size ≤ 9223372036854775807 then (if 5 + t167.size + 1 + t168.size + 1 ≤ 9223372036854775807 then (some (((((⟨#[27, 93, 53, 50, 59]⟩ : ByteArray) ++ t167) ++ (⟨#[59]⟩ : ByteArray)) ++ t168) ++ (⟨#[7]⟩ : ByteArray))) else (none)) else (none)) = some r := H
                have A34 := Aside0.mk A340
                clear A340
                by_cases c35 : 5 + t167.size + 1 + t168.size ≤ 9223372036854775807
                · rw [if_pos c35] at H
                  have c35b0 := eq_true c35
                  have c35b1 : decide (5 + t167.size + 1 + t168.size ≤ 9223372036854775807) = true := decide_eq_true c35
                  try have c35b2 : (9223372036854775807 < 5 + t167.size + 1 + t168.size) = False := eq_false (Nat.not_lt.2 c35)
                  by_cases c36 : 5 + t167.size + 1 + t168.size + 1 ≤ 9223372036854775807
                  · rw [if_pos c36] at H
                    have c36b0 := eq_true c36
                    have c36b1 : decide (5 + t167.size + 1 + t168.size + 1 ≤ 9223372036854775807) = true := decide_eq_true c36
                    try have c36b2 : (9223372036854775807 < 5 + t167.size + 1 + t168.size + 1) = False := eq_false (Nat.not_lt.2 c36)
                    obtain rfl := Option.some.inj H
                    go_enter Tryd.func18, Tryd.ntmps18
                    go_wp2_with (first | ((with_reducible refine gate_callee (f := 50) rfl ?_); refine goesL_ (some 21) rfl rfl Tryd.func50 (by kernel_rfl) rfl #[.int .u8 112] rfl (by (try simp only [List.map_toArray, List.map_cons, List.map_nil]); first | done | rfl | (simp only [List.length_drop, List.length_take]; rfl) | (simp [Act.eval, *]; done) | (simp [Act.eval, *]; unfold wrap64; omega)) ?_; (with_reducible refine (spec_madeCode.calls 112 t167 _ A30.out).mono ?_); rintro e w37 ⟨rfl, hb⟩; refine ⟨_, rfl, ?_⟩; have n0_ := Aside0.mk (below_step (by repeat (first | (with_reducible first | exact HB.out | apply below_alloc | apply Go.Proofs.YtjjkagjdbjpikaaDoor.Ext.below_bytes | apply pw_below_drewN | apply below_drew1) | exact HB.out)) hb); clear HB; have HB := n0_; clear n0_; (try clear hb); (try clear hb2); (try clear hk); (try clear hi)) | (go_at_call 51; (with_reducible refine Go.Proofs.YtjjkagjdbjpikaaDoor.Ext.calls_len (m := (bytesOf a2).length) (k := (a2).size) (bytesOf_length _) rfl ?_); (refine (spec_Base64.calls _ _ (bytesOf a2) t168 _ ?side1 ?side2 A34.out).mono ?_); (case side1 => exact Go.Proofs.YtjjkagjdbjpikaaDoor.Ext.C_bytes _ _ a2 (of_decide_eq_true (by first | (with_reducible assumption) | assumption))); (case side2 => exact Go.Proofs.YtjjkagjdbjpikaaDoor.Ext.bytes_room _ _ _); rintro e w38 ⟨rfl, hb⟩; have n0_ := Aside0.mk (below_step (by repeat (first | (with_reducible first | exact HB.out | apply below_alloc | apply Go.Proofs.YtjjkagjdbjpikaaDoor.Ext.below_bytes | apply pw_below_drewN | apply below_drew1) | exact HB.out)) hb); clear HB; have HB := n0_; clear n0_; (try clear hb); (try clear hb2); (try clear hk); (try clear hi)))
                    go_ret
                    exact ⟨by first | rfl | (simp [errW_none, errW_some] <;> rfl) | (simp [*, errW_none, errW_some] <;> rfl), by repeat (first | (with_reducible first | exact HB.out | apply below_alloc | apply Go.Proofs.YtjjkagjdbjpikaaDoor.Ext.below_bytes | apply pw_below_drewN | apply below_drew1) | exact HB.out)⟩
                  · rw [if_neg c36] at H
                    exact absurd H (by simp)
                · rw [if_neg c35] at H
                  exact absurd H (by simp)
              · rw [if_neg c33] at H
                exact absurd H (by simp)
            · rw [if_neg c32] at H
              exact absurd H (by simp)
          · rw [if_neg c31] at H
            exact absurd H (by simp)
        · rw [if_neg c29] at H
          have c29b0 : (a0 == 4) = false := beq_eq_false_iff_ne.mpr c29
          have c29b1 : (a0 != 4) = true := bne_iff_ne.mpr c29
          replace H := Option.bind_eq_some_iff.mp H
          obtain ⟨t169, A390, H⟩ := H
          replace H : (if 5 + t169.size ≤ 9223372036854775807 then (if 5 + t169.size + 1 ≤ 9223372036854775807 then (if a2.size ≤ 9223372036854775807 then ((spec_Base64.f (bytesOf a2)).bind fun t170 => (if 5 + t169.size + 1 + t170.size ≤ 9223372036854775807 then (if 5 + t169.size + 1 + t170.size + 1 ≤ 9223372036854775807 then (some (((((⟨#[27, 93, 53, 50, 59]⟩ : ByteArray) ++ t169) ++ (⟨#[59]⟩ : ByteArray)) ++ t170) ++ (⟨#[7]⟩ : ByteArray))) else (none)) else (none))) else (none)) else (none)) else (none)) = some r := H
          have A39 := Aside0.mk A390
          clear A390
          by_cases c40 : 5 + t169.size ≤ 9223372036854775807
          · rw [if_pos c40] at H
            have c40b0 := eq_true c40
            have c40b1 : decide (5 + t169.size ≤ 9223372036854775807) = true := decide_eq_true c40
            try have c40b2 : (9223372036854775807 < 5 + t169.size) = False := eq_false (Nat.not_lt.2 c40)
            by_cases c41 : 5 + t169.size + 1 ≤ 9223372036854775807
            · rw [if_pos c41] at H
              have c41b0 := eq_true c41
              have c41b1 : decide (5 + t169.size + 1 ≤ 9223372036854775807) = true := decide_eq_true c41
              try have c41b2 : (9223372036854775807 < 5 + t169.size + 1) = False := eq_false (Nat.not_lt.2 c41)
              by_cases c42 : a2.size ≤ 9223372036854775807
              · rw [if_pos c42] at H
                have c42b0 := eq_true c42
                have c42b1 : decide (a2.size ≤ 9223372036854775807) = true := decide_eq_true c42
                try have c42b2 : (9223372036854775807 < a2.size) = False := eq_false (Nat.not_lt.2 c42)
                clear c42
                replace H := Option.bind_eq_some_iff.mp H
                obtain ⟨t170, A430, H⟩ := H
                replace H : (if 5 + t169.size + 1 + t170.size ≤ 9223372036854775807 then (if 5 + t169.size + 1 + t170.size + 1 ≤ 9223372036854775807 then (some (((((⟨#[27, 93, 53, 50, 59]⟩ : ByteArray) ++ t169) ++ (⟨#[59]⟩ : ByteArray)) ++ t170) ++ (⟨#[7]⟩ : ByteArray))) else (none)) else (none)) = some r := H
                have A43 := Aside0.mk A430
                clear A430
                by_cases c44 : 5 + t169.size + 1 + t170.size ≤ 9223372036854775807
                · rw [if_pos c44] at H
                  have c44b0 := eq_true c44
                  have c44b1 : decide (5 + t169.size + 1 + t170.size ≤ 9223372036854775807) = true := decide_eq_true c44
                  try have c44b2 : (9223372036854775807 < 5 + t169.size + 1 + t170.size) = False := eq_false (Nat.not_lt.2 c44)
                  by_cases c45 : 5 + t169.size + 1 + t170.size + 1 ≤ 9223372036854775807
                  · rw [if_pos c45] at H
                    have c45b0 := eq_true c45
                    have c45b1 : decide (5 + t169.size + 1 + t170.size + 1 ≤ 9223372036854775807) = true := decide_eq_true c45
                    try have c45b2 : (9223372036854775807 < 5 + t169.size + 1 + t170.size + 1) = False := eq_false (Nat.not_lt.2 c45)
                    obtain rfl := Option.some.inj H
                    go_enter Tryd.func18, Tryd.ntmps18
                    go_wp2_with (first | ((with_reducible refine gate_callee (f := 50) rfl ?_); refine goesL_ (some 21) rfl rfl Tryd.func50 (by kernel_rfl) rfl #[.int .u8 a1] rfl (by (try simp only [List.map_toArray, List.map_cons, List.map_nil]); first | done | rfl | (simp only [List.length_drop, List.length_take]; rfl) | (simp [Act.eval, *]; done) | (simp [Act.eval, *]; unfold wrap64; omega)) ?_; (with_reducible refine (spec_madeCode.calls a1 t169 _ A39.out).mono ?_); rintro e w46 ⟨rfl, hb⟩; refine ⟨_, rfl, ?_⟩; have n0_ := Aside0.mk (below_step (by repeat (first | (with_reducible first | exact HB.out | apply below_alloc | apply Go.Proofs.YtjjkagjdbjpikaaDoor.Ext.below_bytes | apply pw_below_drewN | apply below_drew1) | exact HB.out)) hb); clear HB; have HB := n0_; clear n0_; (try clear hb); (try clear hb2); (try clear hk); (try clear hi)) | (go_at_call 51; (with_reducible refine Go.Proofs.YtjjkagjdbjpikaaDoor.Ext.calls_len (m := (bytesOf a2).length) (k := (a2).size) (bytesOf_length _) rfl ?_); (refine (spec_Base64.calls _ _ (bytesOf a2) t170 _ ?side1 ?side2 A43.out).mono ?_); (case side1 => exact Go.Proofs.YtjjkagjdbjpikaaDoor.Ext.C_bytes _ _ a2 (of_decide_eq_true (by first | (with_reducible assumption) | assumption))); (case side2 => exact Go.Proofs.YtjjkagjdbjpikaaDoor.Ext.bytes_room _ _ _); rintro e w47 ⟨rfl, hb⟩; have n0_ := Aside0.mk (below_step (by repeat (first | (with_reducible first | exact HB.out | apply below_alloc | apply Go.Proofs.YtjjkagjdbjpikaaDoor.Ext.below_bytes | apply pw_below_drewN | apply below_drew1) | exact HB.out)) hb); clear HB; have HB := n0_; clear n0_; (try clear hb); (try clear hb2); (try clear hk); (try clear hi)))
                    go_ret
                    exact ⟨by first | rfl | (simp [errW_none, errW_some] <;> rfl) | (simp [*, errW_none, errW_some] <;> rfl), by repeat (first | (with_reducible first | exact HB.out | apply below_alloc | apply Go.Proofs.YtjjkagjdbjpikaaDoor.Ext.below_bytes | apply pw_below_drewN | apply below_drew1) | exact HB.out)⟩
                  · rw [if_neg c45] at H
                    exact absurd H (by simp)
                · rw [if_neg c44] at H
                  exact absurd H (by simp)
              · rw [if_neg c42] at H
                exact absurd H (by simp)
            · rw [if_neg c41] at H
              exact absurd H (by simp)
          · rw [if_neg c40] at H
            exact absurd H (by simp)

/-! ### laws_FnMakeClipboard: function 4 -/
def laws_FnMakeClipboard.j0 : Nat → Int → Int → ByteArray → Bool → Option (Bool)
  | 0, _, _, _, _ => none
  | k + 1, x0, x1, x2, x25 => if x25 = true then ((laws_makeAwake.f).bind fun t175 => (some t175)) else ((laws_makeAwake.f).bind fun t176 => (if t176 = true then ((impl_MakeClipboard.f k x0 x1 x2).bind fun t177 => ((spec_MadeClipboard.f x0 x1 x2).bind fun t178 => (some (t177.toList == t178.toList)))) else (some false)))
def laws_FnMakeClipboard.f (k : Nat) (a0 : Int) (a1 : Int) (a2 : ByteArray) : Option (Bool) := if (a2.size : Int) > 2147483647 then (some true) else (if a0 < 0 then (laws_FnMakeClipboard.j0 k a0 a1 a2 true) else (if a0 > 4 then (laws_FnMakeClipboard.j0 k a0 a1 a2 true) else (if a1 > 127 then (laws_FnMakeClipboard.j0 k a0 a1 a2 true) else ((laws_makeShort.f k (([a2] : List ByteArray))).bind fun t174 => (laws_FnMakeClipboard.j0 k a0 a1 a2 (!t174))))))
theorem laws_FnMakeClipboard.mono_l : ∀ k, (∀ y0 y1 y2 y3, LeO (laws_FnMakeClipboard.j0 k y0 y1 y2 y3) (laws_FnMakeClipboard.j0 (k + 1) y0 y1 y2 y3))
  | 0 => fun _ _ _ _ r h => by simp [laws_FnMakeClipboard.j0] at h
  | k + 1 => by
    have ih0 := laws_FnMakeClipboard.mono_l k
    · intro y0 y1 y2 y3
      unfold laws_FnMakeClipboard.j0
      repeat' first
      | (with_reducible exact ih0 _ _ _ _)
      | (with_reducible exact impl_MakeClipboard.mono _ _ _ _)
      | (with_reducible exact laws_makeShort.mono _ _)
      | (with_reducible exact LeO.refl _)
      | (with_reducible exact LeO.none _)
      | (with_reducible refine LeO.ite ?_ ?_)
      | (with_reducible refine LeO.bind ?_ (fun _ => ?_))
      | exact ih0 _ _ _ _
      | exact impl_MakeClipboard.mono _ _ _ _
      | exact laws_makeShort.mono _ _
      | exact LeO.none _
      | refine LeO.ite ?_ ?_
      | refine LeO.bind ?_ (fun _ => ?_)
theorem laws_FnMakeClipboard.mono : ∀ a0 a1 a2 k, LeO (laws_FnMakeClipboard.f k a0 a1 a2) (laws_FnMakeClipboard.f (k + 1) a0 a1 a2) := by
  intro a0 a1 a2 k
  have ih0 := laws_FnMakeClipboard.mono_l k
  unfold laws_FnMakeClipboard.f
  repeat' first
      | (with_reducible exact ih0 _ _ _ _)
      | (with_reducible exact impl_MakeClipboard.mono _ _ _ _)
      | (with_reducible exact laws_makeShort.mono _ _)
      | (with_reducible exact LeO.refl _)
      | (with_reducible exact LeO.none _)
      | (with_reducible refine LeO.ite ?_ ?_)
      | (with_reducible refine LeO.bind ?_ (fun _ => ?_))
      | exact ih0 _ _ _ _
      | exact impl_MakeClipboard.mono _ _ _ _
      | exact laws_makeShort.mono _ _
      | exact LeO.none _
      | refine LeO.ite ?_ ?_
      | refine LeO.bind ?_ (fun _ => ?_)
set_option maxHeartbeats 8000000 in
set_option maxRecDepth 100000 in
theorem laws_FnMakeClipboard.calls (k : Nat) (a0 : Int) (a1 : Int) (a2 : ByteArray) (r : Bool) (w : World) (hLD : Laid w) (h : laws_FnMakeClipboard.f k a0 a1 a2 = some r) :
    Calls Tryd.prog 4 #[.int .i64 a0, .int .u8 a1, .string a2] w fun e w' => e = .returned (.bool r) ∧ Below w.heap.size w w' := by
  have HLD := Aside0.mk hLD
  clear hLD
  have HB := Aside0.mk (Below.refl w.heap.size w)
  have H : (if (a2.size : Int) > 2147483647 then (some true) else (if a0 < 0 then (laws_FnMakeClipboard.j0 k a0 a1 a2 true) else (if a0 > 4 then (laws_FnMakeClipboard.j0 k a0 a1 a2 true) else (if a1 > 127 then (laws_FnMakeClipboard.j0 k a0 a1 a2 true) else ((laws_makeShort.f k (([a2] : List ByteArray))).bind fun t174 => (laws_FnMakeClipboard.j0 k a0 a1 a2 (!t174))))))) = some r := h
  clear h
  by_cases c4 : (a2.size : Int) > 2147483647
  · rw [if_pos c4] at H
    have c4b0 : decide (2147483647 < (a2.size : Int)) = true := decide_eq_true c4
    have c4b1 : decide (2147483647 < a2.size) = true := decide_eq_true (by omega)
    clear c4
    obtain rfl := Option.some.inj H
    go_enter Tryd.func4, Tryd.ntmps4
    go_wp2
    go_ret
    exact ⟨by first | rfl | (simp [errW_none, errW_some] <;> rfl) | (simp [*, errW_none, errW_some] <;> rfl), by repeat (first | (with_reducible first | exact HB.out | apply below_alloc | apply Go.Proofs.YtjjkagjdbjpikaaDoor.Ext.below_bytes | apply pw_below_drewN | apply below_drew1) | exact HB.out)⟩
  · rw [if_neg c4] at H
    have c4b0 : decide (2147483647 < (a2.size : Int)) = false := decide_eq_false c4
    have c4b1 : decide (2147483647 < a2.size) = false := decide_eq_false (by omega)
    clear c4
    have HC5 := Aside0.mk H
    clear H
    go_enter Tryd.func4, Tryd.ntmps4
    go_upto_region 3 with (fail)
    go_cut [25] (fun v25 wc => ∃ (kq : Nat) (x25_4 : Bool), v25 = .bool x25_4 ∧ Aside0 (laws_FnMakeClipboard.j0 kq a0 a1 a2 x25_4 = some r) ∧ Aside0 (kq ≤ k) ∧ Aside0 (Below w.heap.size w wc))
    case first =>
      have H := HC5.out
      clear HC5
      by_cases c6 : a0 < 0
      · rw [if_pos c6] at H
        have c6b0 : decide (a0 < 0) = true := decide_eq_true c6
        clear c6
        (first | rw [c6b0] | (simp only [i64_w, i32_w]; rw [c6b0]) | skip)
        have H' := Aside0.mk H
        clear H
        go_wp2
        go_meet
        case rel => exact ⟨_, (true), (by first | rfl | (simp; done) | (simp [*]; done)), H', ⟨by first | omega | exact Nat.le_refl _⟩, ⟨by repeat (first | (with_reducible first | exact HB.out | apply below_alloc | apply Go.Proofs.YtjjkagjdbjpikaaDoor.Ext.below_bytes | apply pw_below_drewN | apply below_drew1) | exact HB.out)⟩⟩
      · rw [if_neg c6] at H
        have c6b0 : decide (a0 < 0) = false := decide_eq_false c6
        clear c6
        (first | rw [c6b0] | (simp only [i64_w, i32_w]; rw [c6b0]) | skip)
        by_cases c7 : a0 > 4
        · rw [if_pos c7] at H
          have c7b0 : decide (4 < a0) = true := decide_eq_true c7
          clear c7
          have H' := Aside0.mk H
          clear H
          go_wp2
          go_meet
          case rel => exact ⟨_, (true), (by first | rfl | (simp; done) | (simp [*]; done)), H', ⟨by first | omega | exact Nat.le_refl _⟩, ⟨by repeat (first | (with_reducible first | exact HB.out | apply below_alloc | apply Go.Proofs.YtjjkagjdbjpikaaDoor.Ext.below_bytes | apply pw_below_drewN | apply below_drew1) | exact HB.out)⟩⟩
        · rw [if_neg c7] at H
          have c7b0 : decide (4 < a0) = false := decide_eq_false c7
          clear c7
          by_cases c8 : a1 > 127
          · rw [if_pos c8] at H
            have c8b0 : decide (127 < a1) = true := decide_eq_true c8
            clear c8
            have H' := Aside0.mk H
            clear H
            go_wp2
            go_meet
            case rel => exact ⟨_, (true), (by first | rfl | (simp; done) | (simp [*]; done)), H', ⟨by first | omega | exact Nat.le_refl _⟩, ⟨by repeat (first | (with_reducible first | exact HB.out | apply below_alloc | apply Go.Proofs.YtjjkagjdbjpikaaDoor.Ext.below_bytes | apply pw_below_drewN | apply below_drew1) | exact HB.out)⟩⟩
          · rw [if_neg c8] at H
            have c8b0 : decide (127 < a1) = false := decide_eq_false c8
            clear c8
            obtain ⟨y171, hy171⟩ : ∃ y_ : List ByteArray, y_ = (([a2] : List ByteArray)) := ⟨_, rfl⟩
            replace H : ((laws_makeShort.f k y171).bind fun t174 => (laws_FnMakeClipboard.j0 k a0 a1 a2 (!t174))) = some r := by first | (rw [hy171]; with_reducible exact H) | (have H2_ := (Option.bind_some _ _).symm.trans H; rw [hy171]; with_reducible exact H2_) | (have H2_ := (Option.bind_some _ _).symm.trans H; with_reducible exact H2_) | with_reducible exact H | (rw [hy171]; exact H) | exact H
            have Ny171 := Aside0.mk hy171
            clear hy171
            replace H := Option.bind_eq_some_iff.mp H
            obtain ⟨t174, A90, H⟩ := H
            replace H : (laws_FnMakeClipboard.j0 k a0 a1 a2 (!t174)) = some r := H
            have A9 := Aside0.mk A90
            clear A90
            have H' := Aside0.mk H
            clear H
            go_wp2_with (first | ((with_reducible refine gate_dst (N := 22) rfl ?_); (try (refine gate_guard (by rfl) ?_; dsimp only)); refine Kd.R_lit Kd.string _ 9 ?hg (N := 22) ?hd (xs := ([a2] : List ByteArray)) (inner := [.string a2]) (ok := fun _ => True) (okp := fun _ => True) ?hr ?hp (fun _ hk => hk) trivial (Below.refl _ _) (Nat.le_refl _) (by simp) ?_; (case hd => rfl); (case hg => rfl); (case hr => first | (go_simp; done) | (go_simp; rfl)); (case hp => exact (Reps.one (show Kd.M Kd.string _ _ _ a2 [.string a2] from rfl) (Reps.none _ _))); intro v172 w10 ho11 hb hg_ hnew_; clear hg_ hnew_; (first | rw [← Ny171.out] at ho11 | (simp only [Int.reduceToNat] at ho11; rw [← Ny171.out] at ho11)); have n0_ := Aside0.mk (Kd.R_lower ho11 (below_size (by repeat (first | (with_reducible first | exact HB.out | apply below_alloc | apply Go.Proofs.YtjjkagjdbjpikaaDoor.Ext.below_bytes | apply pw_below_drewN | apply below_drew1) | exact HB.out)))); have n1_ := Aside0.mk (below_step (by repeat (first | (with_reducible first | exact HB.out | apply below_alloc | apply Go.Proofs.YtjjkagjdbjpikaaDoor.Ext.below_bytes | apply pw_below_drewN | apply below_drew1) | exact HB.out)) hb); clear HB; have HO173 := n0_; have HB := n1_; clear n0_ n1_; clear hb ho11; obtain ⟨Ao12, co12, eo12⟩ := Kd.R_slice HO173.out; subst eo12) | (go_at_call 13; (with_reducible refine (laws_makeShort.calls k _ _ y171 t174 _ ?side1 ?side2 A9.out).mono ?_); (case side1 => repeat (first | exact (Kd.R_reads' HO173.out).2.2 | (with_reducible refine Kd.C_alloc ?_ _) | (with_reducible refine Kd.C_drewN ?_ _) | (with_reducible refine Kd.C_drew ?_))); (case side2 => exact (Kd.R_reads' HO173.out).2.1); rintro e w' ⟨rfl, ⟨nd, rfl⟩⟩))
            go_meet
            case rel => exact ⟨_, (!t174), (by first | rfl | (simp; done) | (simp [*]; done)), H', ⟨by first | omega | exact Nat.le_refl _⟩, ⟨by repeat (first | (with_reducible first | exact HB.out | apply below_alloc | apply Go.Proofs.YtjjkagjdbjpikaaDoor.Ext.below_bytes | apply pw_below_drewN | apply below_drew1) | exact HB.out)⟩⟩
    case rest =>
      clear HC5
      try clear p2
      try clear c4
      try clear c4b0
      try clear c4b1
      try clear c6
      try clear c6b0
      try clear c7
      try clear c7b0
      try clear c8
      try clear c8b0
      obtain ⟨kq, x25_4, rfl, HA, HJ4, HB⟩ := hcut
      cases kq with
      | zero => exact absurd HA.out (by simp [laws_FnMakeClipboard.j0])
      | succ kj4 =>
        have H := HA.out
        clear HA
        simp only [laws_FnMakeClipboard.j0] at H
        by_cases c13 : x25_4 = true
        · subst c13
          have H1 : ((laws_makeAwake.f).bind fun t175 => (some t175)) = some r := by rw [if_pos rfl] at H; exact H
          clear H
          have H := H1
          clear H1
          replace H := Option.bind_eq_some_iff.mp H
          obtain ⟨t175, A140, H⟩ := H
          replace H : (some t175) = some r := H
          have A14 := Aside0.mk A140
          clear A140
          obtain rfl := Option.some.inj H
          go_wp2_with (first | ((with_reducible refine gate_callee (f := 14) rfl ?_); refine goesL_ (some 26) rfl rfl Tryd.func14 (by kernel_rfl) rfl #[] rfl (by (try simp only [List.map_toArray, List.map_cons, List.map_nil]); first | done | rfl | (simp only [List.length_drop, List.length_take]; rfl) | (simp [Act.eval, *]; done) | (simp [Act.eval, *]; unfold wrap64; omega)) ?_; (with_reducible refine (laws_makeAwake.calls  t175 _ ?side1 A14.out).mono ?_); (case side1 => exact HLD.out.below (by repeat (first | (with_reducible first | exact HB.out | apply below_alloc | apply Go.Proofs.YtjjkagjdbjpikaaDoor.Ext.below_bytes | apply pw_below_drewN | apply below_drew1) | exact HB.out))); rintro e w15 ⟨rfl, hb⟩; refine ⟨_, rfl, ?_⟩; have n0_ := Aside0.mk (below_step (by repeat (first | (with_reducible first | exact HB.out | apply below_alloc | apply Go.Proofs.YtjjkagjdbjpikaaDoor.Ext.below_bytes | apply pw_below_drewN | apply below_drew1) | exact HB.out)) hb); clear HB; have HB := n0_; clear n0_; (try clear hb); (try clear hb2); (try clear hk); (try clear hi)))
          go_ret
          exact ⟨by first | rfl | (simp [errW_none, errW_some] <;> rfl) | (simp [*, errW_none, errW_some] <;> rfl), by repeat (first | (with_reducible first | exact HB.out | apply below_alloc | apply Go.Proofs.YtjjkagjdbjpikaaDoor.Ext.below_bytes | apply pw_below_drewN | apply below_drew1) | exact HB.out)⟩
        · replace c13 := Bool.eq_false_iff.mpr c13
          subst c13
          have H1 : ((laws_makeAwake.f).bind fun t176 => (if t176 = true then ((impl_MakeClipboard.f kj4 a0 a1 a2).bind fun t177 => ((spec_MadeClipboard.f a0 a1 a2).bind fun t178 => (some (t177.toList == t178.toList)))) else (some false))) = some r := by rw [if_neg (show ¬ (false = true) by decide)] at H; exact H
          clear H
          have H := H1
          clear H1
          replace H := Option.bind_eq_some_iff.mp H
          obtain ⟨t176, A160, H⟩ := H
          replace H : (if t176 = true then ((impl_MakeClipboard.f kj4 a0 a1 a2).bind fun t177 => ((spec_MadeClipboard.f a0 a1 a2).bind fun t178 => (some (t177.toList == t178.toList)))) else (some false)) = some r := H
          have A16 := Aside0.mk A160
          clear A160
          by_cases c17 : t176 = true
          · subst c17
            have H1 : ((impl_MakeClipboard.f kj4 a0 a1 a2).bind fun t177 => ((spec_MadeClipboard.f a0 a1 a2).bind fun t178 => (some (t177.toList == t178.toList)))) = some r := by rw [if_pos rfl] at H; exact H
            clear H
            have H := H1
            clear H1
            replace H := Option.bind_eq_some_iff.mp H
            obtain ⟨t177, A180, H⟩ := H
            replace H : ((spec_MadeClipboard.f a0 a1 a2).bind fun t178 => (some (t177.toList == t178.toList))) = some r := H
            have A18 := Aside0.mk A180
            clear A180
            replace H := Option.bind_eq_some_iff.mp H
            obtain ⟨t178, A190, H⟩ := H
            replace H : (some (t177.toList == t178.toList)) = some r := H
            have A19 := Aside0.mk A190
            clear A190
            obtain rfl := Option.some.inj H
            go_wp2_with (first | ((with_reducible refine gate_callee (f := 14) rfl ?_); refine goesL_ (some 27) rfl rfl Tryd.func14 (by kernel_rfl) rfl #[] rfl (by (try simp only [List.map_toArray, List.map_cons, List.map_nil]); first | done | rfl | (simp only [List.length_drop, List.length_take]; rfl) | (simp [Act.eval, *]; done) | (simp [Act.eval, *]; unfold wrap64; omega)) ?_; (with_reducible refine (laws_makeAwake.calls  true _ ?side1 A16.out).mono ?_); (case side1 => exact HLD.out.below (by repeat (first | (with_reducible first | exact HB.out | apply below_alloc | apply Go.Proofs.YtjjkagjdbjpikaaDoor.Ext.below_bytes | apply pw_below_drewN | apply below_drew1) | exact HB.out))); rintro e w20 ⟨rfl, hb⟩; refine ⟨_, rfl, ?_⟩; have n0_ := Aside0.mk (below_step (by repeat (first | (with_reducible first | exact HB.out | apply below_alloc | apply Go.Proofs.YtjjkagjdbjpikaaDoor.Ext.below_bytes | apply pw_below_drewN | apply below_drew1) | exact HB.out)) hb); clear HB; have HB := n0_; clear n0_; (try clear hb); (try clear hb2); (try clear hk); (try clear hi)) | (go_at_call 17; (with_reducible refine (impl_MakeClipboard.calls kj4 a0 a1 a2 t177 _ A18.out).mono ?_); rintro e w21 ⟨rfl, hb⟩; have n0_ := Aside0.mk (below_step (by repeat (first | (with_reducible first | exact HB.out | apply below_alloc | apply Go.Proofs.YtjjkagjdbjpikaaDoor.Ext.below_bytes | apply pw_below_drewN | apply below_drew1) | exact HB.out)) hb); clear HB; have HB := n0_; clear n0_; (try clear hb); (try clear hb2); (try clear hk); (try clear hi)) | (go_at_call 18; (with_reducible refine (spec_MadeClipboard.calls a0 a1 a2 t178 _ A19.out).mono ?_); rintro e w22 ⟨rfl, hb⟩; have n0_ := Aside0.mk (below_step (by repeat (first | (with_reducible first | exact HB.out | apply below_alloc | apply Go.Proofs.YtjjkagjdbjpikaaDoor.Ext.below_bytes | apply pw_below_drewN | apply below_drew1) | exact HB.out)) hb); clear HB; have HB := n0_; clear n0_; (try clear hb); (try clear hb2); (try clear hk); (try clear hi)))
            go_ret
            exact ⟨by first | rfl | (simp [errW_none, errW_some] <;> rfl) | (simp [*, errW_none, errW_some] <;> rfl), by repeat (first | (with_reducible first | exact HB.out | apply below_alloc | apply Go.Proofs.YtjjkagjdbjpikaaDoor.Ext.below_bytes | apply pw_below_drewN | apply below_drew1) | exact HB.out)⟩
          · replace c17 := Bool.eq_false_iff.mpr c17
            subst c17
            have H1 : (some false) = some r := by rw [if_neg (show ¬ (false = true) by decide)] at H; exact H
            clear H
            have H := H1
            clear H1
            obtain rfl := Option.some.inj H
            go_wp2_with (first | ((with_reducible refine gate_callee (f := 14) rfl ?_); refine goesL_ (some 27) rfl rfl Tryd.func14 (by kernel_rfl) rfl #[] rfl (by (try simp only [List.map_toArray, List.map_cons, List.map_nil]); first | done | rfl | (simp only [List.length_drop, List.length_take]; rfl) | (simp [Act.eval, *]; done) | (simp [Act.eval, *]; unfold wrap64; omega)) ?_; (with_reducible refine (laws_makeAwake.calls  false _ ?side1 A16.out).mono ?_); (case side1 => exact HLD.out.below (by repeat (first | (with_reducible first | exact HB.out | apply below_alloc | apply Go.Proofs.YtjjkagjdbjpikaaDoor.Ext.below_bytes | apply pw_below_drewN | apply below_drew1) | exact HB.out))); rintro e w23 ⟨rfl, hb⟩; refine ⟨_, rfl, ?_⟩; have n0_ := Aside0.mk (below_step (by repeat (first | (with_reducible first | exact HB.out | apply below_alloc | apply Go.Proofs.YtjjkagjdbjpikaaDoor.Ext.below_bytes | apply pw_below_drewN | apply below_drew1) | exact HB.out)) hb); clear HB; have HB := n0_; clear n0_; (try clear hb); (try clear hb2); (try clear hk); (try clear hi)))
            go_ret
            exact ⟨by first | rfl | (simp [errW_none, errW_some] <;> rfl) | (simp [*, errW_none, errW_some] <;> rfl), by repeat (first | (with_reducible first | exact HB.out | apply below_alloc | apply Go.Proofs.YtjjkagjdbjpikaaDoor.Ext.below_bytes | apply pw_below_drewN | apply below_drew1) | exact HB.out)⟩

/-- THE ONE PURE STATEMENT of laws_FnMakeClipboard: yours. -/
def laws_FnMakeClipboard.Pure : Prop := ∀ (a0 : Int) (a1 : Int) (a2 : ByteArray), (Lit.int .i64 a0).wf = true → (Lit.int .u8 a1).wf = true → a2.size ≤ 140737488351232 → ∃ k, laws_FnMakeClipboard.f k a0 a1 a2 = some true
theorem laws_FnMakeClipboard.walk (P : laws_FnMakeClipboard.Pure) (a0 : Int) (a1 : Int) (a2 : ByteArray) (w : World) (hLD : Laid w) (w0 : (Lit.int .i64 a0).wf = true) (w1 : (Lit.int .u8 a1).wf = true) (w2 : a2.size ≤ 140737488351232) :
    Calls Tryd.prog 4 #[.int .i64 a0, .int .u8 a1, .string a2] w fun e w' => e = .returned (.bool true) ∧ Below w.heap.size w w' := by
  obtain ⟨k, h⟩ := P a0 a1 a2 w0 w1 w2
  refine (laws_FnMakeClipboard.calls k a0 a1 a2 true w hLD h).mono ?_
  rintro e w' ⟨rfl, hd⟩
  exact ⟨rfl, hd⟩

end Go.Proofs.YtjjkagjdbjpikaaDoor.PC
