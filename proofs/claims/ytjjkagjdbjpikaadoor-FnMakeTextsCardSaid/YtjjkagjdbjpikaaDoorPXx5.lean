-- Written by wip/pp.py, a program of this session, out of the translation. Not trusted: Lean checks it.
import Derived.Test.YtjjkagjdbjpikaaDoorPXx0
import Derived.Test.YtjjkagjdbjpikaaDoorPXx4
namespace Go.Proofs.YtjjkagjdbjpikaaDoor.PX
open Go.RowKit Go.Proofs.YtjjkagjdbjpikaaDoor.Or Go.Proofs.YtjjkagjdbjpikaaDoorW.PrintWords Go.Proofs.YtjjkagjdbjpikaaDoorW.PrintLast Go.Proofs.YtjjkagjdbjpikaaDoorW.PrintMore
attribute [local go_sem] max2_int min2_int max_two min_two max_three min_three max_four min_four   -- for this text's walks alone
attribute [local go_sem] Go.Proofs.YtjjkagjdbjpikaaDoor.Ext.wrap64_mod256 Go.Proofs.YtjjkagjdbjpikaaDoor.Ext.wrap64_mod32 Go.Proofs.YtjjkagjdbjpikaaDoor.Ext.i64_mod256 Go.Proofs.YtjjkagjdbjpikaaDoor.Ext.i64_mod32 Go.Proofs.YtjjkagjdbjpikaaDoor.Ext.i64_u8 Go.Proofs.YtjjkagjdbjpikaaDoor.Ext.w64_u8 Go.Proofs.YtjjkagjdbjpikaaDoor.Ext.i64_u32 Go.Proofs.YtjjkagjdbjpikaaDoor.Ext.w64_u32 
set_option linter.unusedVariables false
set_option linter.unusedSimpArgs false

/-! ### xansi_SetHyperlink: function 34 -/
def xansi_SetHyperlink.f (k : Nat) (a0 : ByteArray) (l1 : List ByteArray) : Option (ByteArray) := if (l1.length : Int) > 0 then ((xansi_zzJoin.f k l1 (⟨#[58]⟩ : ByteArray)).bind fun t178 => (if 4 + t178.size ≤ 9223372036854775807 then (if 4 + t178.size + 1 ≤ 9223372036854775807 then (if 4 + t178.size + 1 + a0.size ≤ 9223372036854775807 then (if 4 + t178.size + 1 + a0.size + 1 ≤ 9223372036854775807 then (some (((((⟨#[27, 93, 56, 59]⟩ : ByteArray) ++ t178) ++ (⟨#[59]⟩ : ByteArray)) ++ a0) ++ (⟨#[7]⟩ : ByteArray))) else (none)) else (none)) else (none)) else (none))) else (if 4 + 0 ≤ 9223372036854775807 then (if 4 + 0 + 1 ≤ 9223372036854775807 then (if 4 + 0 + 1 + a0.size ≤ 9223372036854775807 then (if 4 + 0 + 1 + a0.size + 1 ≤ 9223372036854775807 then (some (((((⟨#[27, 93, 56, 59]⟩ : ByteArray) ++ (⟨#[]⟩ : ByteArray)) ++ (⟨#[59]⟩ : ByteArray)) ++ a0) ++ (⟨#[7]⟩ : ByteArray))) else (none)) else (none)) else (none)) else (none))
theorem xansi_SetHyperlink.mono : ∀ a0 a1 k, LeO (xansi_SetHyperlink.f k a0 a1) (xansi_SetHyperlink.f (k + 1) a0 a1) := by
  intro a0 a1 k
  unfold xansi_SetHyperlink.f
  repeat' first
      | (with_reducible exact xansi_zzJoin.mono _ _ _)
      | (with_reducible exact LeO.refl _)
      | (with_reducible exact LeO.none _)
      | (with_reducible refine LeO.ite ?_ ?_)
      | (with_reducible refine LeO.bind ?_ (fun _ => ?_))
      | exact xansi_zzJoin.mono _ _ _
      | exact LeO.none _
      | refine LeO.ite ?_ ?_
      | refine LeO.bind ?_ (fun _ => ?_)
set_option maxHeartbeats 8000000 in
set_option maxRecDepth 100000 in
theorem xansi_SetHyperlink.calls (k : Nat) (a0 : ByteArray) (A1 : Option Addr) (c1 : Nat) (l1 : List ByteArray) (r : ByteArray) (w : World) (hr1 : Kd.C Kd.string w A1 l1.length l1) (hc1 : l1.length ≤ c1) (h : xansi_SetHyperlink.f k a0 l1 = some r) :
    Calls Tryd.prog 34 #[.string a0, .slice A1 l1.length c1] w fun e w' => e = .returned (.string r) ∧ Drawn0 w w' := by
  have HR1 := Aside0.mk hr1
  have HC1 := Aside0.mk hc1
  clear hr1 hc1
  have H : (if (l1.length : Int) > 0 then ((xansi_zzJoin.f k l1 (⟨#[58]⟩ : ByteArray)).bind fun t178 => (if 4 + t178.size ≤ 9223372036854775807 then (if 4 + t178.size + 1 ≤ 9223372036854775807 then (if 4 + t178.size + 1 + a0.size ≤ 9223372036854775807 then (if 4 + t178.size + 1 + a0.size + 1 ≤ 9223372036854775807 then (some (((((⟨#[27, 93, 56, 59]⟩ : ByteArray) ++ t178) ++ (⟨#[59]⟩ : ByteArray)) ++ a0) ++ (⟨#[7]⟩ : ByteArray))) else (none)) else (none)) else (none)) else (none))) else (if 4 + 0 ≤ 9223372036854775807 then (if 4 + 0 + 1 ≤ 9223372036854775807 then (if 4 + 0 + 1 + a0.size ≤ 9223372036854775807 then (if 4 + 0 + 1 + a0.size + 1 ≤ 9223372036854775807 then (some (((((⟨#[27, 93, 56, 59]⟩ : ByteArray) ++ (⟨#[]⟩ : ByteArray)) ++ (⟨#[59]⟩ : ByteArray)) ++ a0) ++ (⟨#[7]⟩ : ByteArray))) else (none)) else (none)) else (none)) else (none))) = some r := h
  clear h
  by_cases c3 : (l1.length : Int) > 0
  · rw [if_pos c3] at H
    have c3b0 : decide (0 < (l1.length : Int)) = true := decide_eq_true c3
    have c3b1 : decide (0 < l1.length) = true := decide_eq_true (by omega)
    clear c3
    replace H := Option.bind_eq_some_iff.mp H
    obtain ⟨t178, A40, H⟩ := H
    replace H : (if 4 + t178.size ≤ 9223372036854775807 then (if 4 + t178.size + 1 ≤ 9223372036854775807 then (if 4 + t178.size + 1 + a0.size ≤ 9223372036854775807 then (if 4 + t178.size + 1 + a0.size + 1 ≤ 9223372036854775807 then (some (((((⟨#[27, 93, 56, 59]⟩ : ByteArray) ++ t178) ++ (⟨#[59]⟩ : ByteArray)) ++ a0) ++ (⟨#[7]⟩ : ByteArray))) else (none)) else (none)) else (none)) else (none)) = some r := H
    have A4 := Aside0.mk A40
    clear A40
    by_cases c5 : 4 + t178.size ≤ 9223372036854775807
    · rw [if_pos c5] at H
      have c5b0 := eq_true c5
      have c5b1 : decide (4 + t178.size ≤ 9223372036854775807) = true := decide_eq_true c5
      try have c5b2 : (9223372036854775807 < 4 + t178.size) = False := eq_false (Nat.not_lt.2 c5)
      by_cases c6 : 4 + t178.size + 1 ≤ 9223372036854775807
      · rw [if_pos c6] at H
        have c6b0 := eq_true c6
        have c6b1 : decide (4 + t178.size + 1 ≤ 9223372036854775807) = true := decide_eq_true c6
        try have c6b2 : (9223372036854775807 < 4 + t178.size + 1) = False := eq_false (Nat.not_lt.2 c6)
        by_cases c7 : 4 + t178.size + 1 + a0.size ≤ 9223372036854775807
        · rw [if_pos c7] at H
          have c7b0 := eq_true c7
          have c7b1 : decide (4 + t178.size + 1 + a0.size ≤ 9223372036854775807) = true := decide_eq_true c7
          try have c7b2 : (9223372036854775807 < 4 + t178.size + 1 + a0.size) = False := eq_false (Nat.not_lt.2 c7)
          by_cases c8 : 4 + t178.size + 1 + a0.size + 1 ≤ 9223372036854775807
          · rw [if_pos c8] at H
            have c8b0 := eq_true c8
            have c8b1 : decide (4 + t178.size + 1 + a0.size + 1 ≤ 9223372036854775807) = true := decide_eq_true c8
            try have c8b2 : (9223372036854775807 < 4 + t178.size + 1 + a0.size + 1) = False := eq_false (Nat.not_lt.2 c8)
            obtain rfl := Option.some.inj H
            go_enter Tryd.func34, Tryd.ntmps34
            go_wp2_with (first | ((with_reducible refine gate_callee (f := 101) rfl ?_); refine goesL_ (some 10) rfl rfl Tryd.func101 (by kernel_rfl) rfl #[.slice A1 l1.length c1, .string (⟨#[58]⟩ : ByteArray)] rfl (by (try simp only [List.map_toArray, List.map_cons, List.map_nil]); first | done | rfl | (simp only [List.length_drop, List.length_take]; rfl) | (simp [Act.eval, *]; done)) ?_; (with_reducible refine (xansi_zzJoin.calls k _ _ l1 (⟨#[58]⟩ : ByteArray) t178 _ ?side1 ?side2 A4.out).mono ?_); (case side1 => repeat (first | exact HR1.out | (with_reducible refine Kd.C_alloc ?_ _) | (with_reducible refine Kd.C_drewN ?_ _) | (with_reducible refine Kd.C_drew ?_))); (case side2 => exact HC1.out); rintro e w' ⟨rfl, ⟨nd, rfl⟩⟩; refine ⟨_, rfl, ?_⟩))
            go_ret
            exact ⟨by first | rfl | (simp; done) | (simp [*]; done), by repeat (first | exact Drawn0.refl _ | apply Drawn0.step)⟩
          · rw [if_neg c8] at H
            exact absurd H (by simp)
        · rw [if_neg c7] at H
          exact absurd H (by simp)
      · rw [if_neg c6] at H
        exact absurd H (by simp)
    · rw [if_neg c5] at H
      exact absurd H (by simp)
  · rw [if_neg c3] at H
    have c3b0 : decide (0 < (l1.length : Int)) = false := decide_eq_false c3
    have c3b1 : decide (0 < l1.length) = false := decide_eq_false (by omega)
    clear c3
    by_cases c9 : 4 + 0 ≤ 9223372036854775807
    · rw [if_pos c9] at H
      have c9b0 := eq_true c9
      have c9b1 : decide (4 + 0 ≤ 9223372036854775807) = true := decide_eq_true c9
      try have c9b2 : (9223372036854775807 < 4 + 0) = False := eq_false (Nat.not_lt.2 c9)
      by_cases c10 : 4 + 0 + 1 ≤ 9223372036854775807
      · rw [if_pos c10] at H
        have c10b0 := eq_true c10
        have c10b1 : decide (4 + 0 + 1 ≤ 9223372036854775807) = true := decide_eq_true c10
        try have c10b2 : (9223372036854775807 < 4 + 0 + 1) = False := eq_false (Nat.not_lt.2 c10)
        by_cases c11 : 4 + 0 + 1 + a0.size ≤ 9223372036854775807
        · rw [if_pos c11] at H
          have c11b0 := eq_true c11
          have c11b1 : decide (4 + 0 + 1 + a0.size ≤ 9223372036854775807) = true := decide_eq_true c11
          try have c11b2 : (9223372036854775807 < 4 + 0 + 1 + a0.size) = False := eq_false (Nat.not_lt.2 c11)
          by_cases c12 : 4 + 0 + 1 + a0.size + 1 ≤ 9223372036854775807
          · rw [if_pos c12] at H
            have c12b0 := eq_true c12
            have c12b1 : decide (4 + 0 + 1 + a0.size + 1 ≤ 9223372036854775807) = true := decide_eq_true c12
            try have c12b2 : (9223372036854775807 < 4 + 0 + 1 + a0.size + 1) = False := eq_false (Nat.not_lt.2 c12)
            obtain rfl := Option.some.inj H
            go_enter Tryd.func34, Tryd.ntmps34
            go_wp2
            go_ret
            exact ⟨by first | rfl | (simp; done) | (simp [*]; done), by repeat (first | exact Drawn0.refl _ | apply Drawn0.step)⟩
          · rw [if_neg c12] at H
            exact absurd H (by simp)
        · rw [if_neg c11] at H
          exact absurd H (by simp)
      · rw [if_neg c10] at H
        exact absurd H (by simp)
    · rw [if_neg c9] at H
      exact absurd H (by simp)

/-! ### xansi_URxvtExt: function 35 -/
def xansi_URxvtExt.f (k : Nat) (a0 : ByteArray) (l1 : List ByteArray) : Option (ByteArray) := if 6 + a0.size ≤ 9223372036854775807 then (if 6 + a0.size + 1 ≤ 9223372036854775807 then ((xansi_zzJoin.f k l1 (⟨#[59]⟩ : ByteArray)).bind fun t179 => (if 6 + a0.size + 1 + t179.size ≤ 9223372036854775807 then (if 6 + a0.size + 1 + t179.size + 1 ≤ 9223372036854775807 then (some (((((⟨#[27, 93, 55, 55, 55, 59]⟩ : ByteArray) ++ a0) ++ (⟨#[59]⟩ : ByteArray)) ++ t179) ++ (⟨#[7]⟩ : ByteArray))) else (none)) else (none))) else (none)) else (none)
theorem xansi_URxvtExt.mono : ∀ a0 a1 k, LeO (xansi_URxvtExt.f k a0 a1) (xansi_URxvtExt.f (k + 1) a0 a1) := by
  intro a0 a1 k
  unfold xansi_URxvtExt.f
  repeat' first
      | (with_reducible exact xansi_zzJoin.mono _ _ _)
      | (with_reducible exact LeO.refl _)
      | (with_reducible exact LeO.none _)
      | (with_reducible refine LeO.ite ?_ ?_)
      | (with_reducible refine LeO.bind ?_ (fun _ => ?_))
      | exact xansi_zzJoin.mono _ _ _
      | exact LeO.none _
      | refine LeO.ite ?_ ?_
      | refine LeO.bind ?_ (fun _ => ?_)
set_option maxHeartbeats 8000000 in
set_option maxRecDepth 100000 in
theorem xansi_URxvtExt.calls (k : Nat) (a0 : ByteArray) (A1 : Option Addr) (c1 : Nat) (l1 : List ByteArray) (r : ByteArray) (w : World) (hr1 : Kd.C Kd.string w A1 l1.length l1) (hc1 : l1.length ≤ c1) (h : xansi_URxvtExt.f k a0 l1 = some r) :
    Calls Tryd.prog 35 #[.string a0, .slice A1 l1.length c1] w fun e w' => e = .returned (.string r) ∧ Drawn0 w w' := by
  have HR1 := Aside0.mk hr1
  have HC1 := Aside0.mk hc1
  clear hr1 hc1
  have H : (if 6 + a0.size ≤ 9223372036854775807 then (if 6 + a0.size + 1 ≤ 9223372036854775807 then ((xansi_zzJoin.f k l1 (⟨#[59]⟩ : ByteArray)).bind fun t179 => (if 6 + a0.size + 1 + t179.size ≤ 9223372036854775807 then (if 6 + a0.size + 1 + t179.size + 1 ≤ 9223372036854775807 then (some (((((⟨#[27, 93, 55, 55, 55, 59]⟩ : ByteArray) ++ a0) ++ (⟨#[59]⟩ : ByteArray)) ++ t179) ++ (⟨#[7]⟩ : ByteArray))) else (none)) else (none))) else (none)) else (none)) = some r := h
  clear h
  by_cases c3 : 6 + a0.size ≤ 9223372036854775807
  · rw [if_pos c3] at H
    have c3b0 := eq_true c3
    have c3b1 : decide (6 + a0.size ≤ 9223372036854775807) = true := decide_eq_true c3
    try have c3b2 : (9223372036854775807 < 6 + a0.size) = False := eq_false (Nat.not_lt.2 c3)
    by_cases c4 : 6 + a0.size + 1 ≤ 9223372036854775807
    · rw [if_pos c4] at H
      have c4b0 := eq_true c4
      have c4b1 : decide (6 + a0.size + 1 ≤ 9223372036854775807) = true := decide_eq_true c4
      try have c4b2 : (9223372036854775807 < 6 + a0.size + 1) = False := eq_false (Nat.not_lt.2 c4)
      replace H := Option.bind_eq_some_iff.mp H
      obtain ⟨t179, A50, H⟩ := H
      replace H : (if 6 + a0.size + 1 + t179.size ≤ 9223372036854775807 then (if 6 + a0.size + 1 + t179.size + 1 ≤ 9223372036854775807 then (some (((((⟨#[27, 93, 55, 55, 55, 59]⟩ : ByteArray) ++ a0) ++ (⟨#[59]⟩ : ByteArray)) ++ t179) ++ (⟨#[7]⟩ : ByteArray))) else (none)) else (none)) = some r := H
      have A5 := Aside0.mk A50
      clear A50
      by_cases c6 : 6 + a0.size + 1 + t179.size ≤ 9223372036854775807
      · rw [if_pos c6] at H
        have c6b0 := eq_true c6
        have c6b1 : decide (6 + a0.size + 1 + t179.size ≤ 9223372036854775807) = true := decide_eq_true c6
        try have c6b2 : (9223372036854775807 < 6 + a0.size + 1 + t179.size) = False := eq_false (Nat.not_lt.2 c6)
        by_cases c7 : 6 + a0.size + 1 + t179.size + 1 ≤ 9223372036854775807
        · rw [if_pos c7] at H
          have c7b0 := eq_true c7
          have c7b1 : decide (6 + a0.size + 1 + t179.size + 1 ≤ 9223372036854775807) = true := decide_eq_true c7
          try have c7b2 : (9223372036854775807 < 6 + a0.size + 1 + t179.size + 1) = False := eq_false (Nat.not_lt.2 c7)
          obtain rfl := Option.some.inj H
          go_enter Tryd.func35, Tryd.ntmps35
          go_wp2_with (first | ((with_reducible refine gate_callee (f := 101) rfl ?_); refine goesL_ (some 9) rfl rfl Tryd.func101 (by kernel_rfl) rfl #[.slice A1 l1.length c1, .string (⟨#[59]⟩ : ByteArray)] rfl (by (try simp only [List.map_toArray, List.map_cons, List.map_nil]); first | done | rfl | (simp only [List.length_drop, List.length_take]; rfl) | (simp [Act.eval, *]; done)) ?_; (with_reducible refine (xansi_zzJoin.calls k _ _ l1 (⟨#[59]⟩ : ByteArray) t179 _ ?side1 ?side2 A5.out).mono ?_); (case side1 => repeat (first | exact HR1.out | (with_reducible refine Kd.C_alloc ?_ _) | (with_reducible refine Kd.C_drewN ?_ _) | (with_reducible refine Kd.C_drew ?_))); (case side2 => exact HC1.out); rintro e w' ⟨rfl, ⟨nd, rfl⟩⟩; refine ⟨_, rfl, ?_⟩))
          go_ret
          exact ⟨by first | rfl | (simp; done) | (simp [*]; done), by repeat (first | exact Drawn0.refl _ | apply Drawn0.step)⟩
        · rw [if_neg c7] at H
          exact absurd H (by simp)
      · rw [if_neg c6] at H
        exact absurd H (by simp)
    · rw [if_neg c4] at H
      exact absurd H (by simp)
  · rw [if_neg c3] at H
    exact absurd H (by simp)

/-! ### xansi_DesktopNotification: function 36 -/
def xansi_DesktopNotification.f (k : Nat) (a0 : ByteArray) (l1 : List ByteArray) : Option (ByteArray) := (xansi_zzJoin.f k l1 (⟨#[58]⟩ : ByteArray)).bind fun t180 => (if 5 + t180.size ≤ 9223372036854775807 then (if 5 + t180.size + 1 ≤ 9223372036854775807 then (if 5 + t180.size + 1 + a0.size ≤ 9223372036854775807 then (if 5 + t180.size + 1 + a0.size + 1 ≤ 9223372036854775807 then (some (((((⟨#[27, 93, 57, 57, 59]⟩ : ByteArray) ++ t180) ++ (⟨#[59]⟩ : ByteArray)) ++ a0) ++ (⟨#[7]⟩ : ByteArray))) else (none)) else (none)) else (none)) else (none))
theorem xansi_DesktopNotification.mono : ∀ a0 a1 k, LeO (xansi_DesktopNotification.f k a0 a1) (xansi_DesktopNotification.f (k + 1) a0 a1) := by
  intro a0 a1 k
  unfold xansi_DesktopNotification.f
  repeat' first
      | (with_reducible exact xansi_zzJoin.mono _ _ _)
      | (with_reducible exact LeO.refl _)
      | (with_reducible exact LeO.none _)
      | (with_reducible refine LeO.ite ?_ ?_)
      | (with_reducible refine LeO.bind ?_ (fun _ => ?_))
      | exact xansi_zzJoin.mono _ _ _
      | exact LeO.none _
      | refine LeO.ite ?_ ?_
      | refine LeO.bind ?_ (fun _ => ?_)
set_option maxHeartbeats 8000000 in
set_option maxRecDepth 100000 in
theorem xansi_DesktopNotification.calls (k : Nat) (a0 : ByteArray) (A1 : Option Addr) (c1 : Nat) (l1 : List ByteArray) (r : ByteArray) (w : World) (hr1 : Kd.C Kd.string w A1 l1.length l1) (hc1 : l1.length ≤ c1) (h : xansi_DesktopNotification.f k a0 l1 = some r) :
    Calls Tryd.prog 36 #[.string a0, .slice A1 l1.length c1] w fun e w' => e = .returned (.string r) ∧ Drawn0 w w' := by
  have HR1 := Aside0.mk hr1
  have HC1 := Aside0.mk hc1
  clear hr1 hc1
  have H : ((xansi_zzJoin.f k l1 (⟨#[58]⟩ : ByteArray)).bind fun t180 => (if 5 + t180.size ≤ 9223372036854775807 then (if 5 + t180.size + 1 ≤ 9223372036854775807 then (if 5 + t180.size + 1 + a0.size ≤ 9223372036854775807 then (if 5 + t180.size + 1 + a0.size + 1 ≤ 9223372036854775807 then (some (((((⟨#[27, 93, 57, 57, 59]⟩ : ByteArray) ++ t180) ++ (⟨#[59]⟩ : ByteArray)) ++ a0) ++ (⟨#[7]⟩ : ByteArray))) else (none)) else (none)) else (none)) else (none))) = some r := h
  clear h
  replace H := Option.bind_eq_some_iff.mp H
  obtain ⟨t180, A30, H⟩ := H
  replace H : (if 5 + t180.size ≤ 9223372036854775807 then (if 5 + t180.size + 1 ≤ 9223372036854775807 then (if 5 + t180.size + 1 + a0.size ≤ 9223372036854775807 then (if 5 + t180.size + 1 + a0.size + 1 ≤ 9223372036854775807 then (some (((((⟨#[27, 93, 57, 57, 59]⟩ : ByteArray) ++ t180) ++ (⟨#[59]⟩ : ByteArray)) ++ a0) ++ (⟨#[7]⟩ : ByteArray))) else (none)) else (none)) else (none)) else (none)) = some r := H
  have A3 := Aside0.mk A30
  clear A30
  by_cases c4 : 5 + t180.size ≤ 9223372036854775807
  · rw [if_pos c4] at H
    have c4b0 := eq_true c4
    have c4b1 : decide (5 + t180.size ≤ 9223372036854775807) = true := decide_eq_true c4
    try have c4b2 : (9223372036854775807 < 5 + t180.size) = False := eq_false (Nat.not_lt.2 c4)
    by_cases c5 : 5 + t180.size + 1 ≤ 9223372036854775807
    · rw [if_pos c5] at H
      have c5b0 := eq_true c5
      have c5b1 : decide (5 + t180.size + 1 ≤ 9223372036854775807) = true := decide_eq_true c5
      try have c5b2 : (9223372036854775807 < 5 + t180.size + 1) = False := eq_false (Nat.not_lt.2 c5)
      by_cases c6 : 5 + t180.size + 1 + a0.size ≤ 9223372036854775807
      · rw [if_pos c6] at H
        have c6b0 := eq_true c6
        have c6b1 : decide (5 + t180.size + 1 + a0.size ≤ 9223372036854775807) = true := decide_eq_true c6
        try have c6b2 : (9223372036854775807 < 5 + t180.size + 1 + a0.size) = False := eq_false (Nat.not_lt.2 c6)
        by_cases c7 : 5 + t180.size + 1 + a0.size + 1 ≤ 9223372036854775807
        · rw [if_pos c7] at H
          have c7b0 := eq_true c7
          have c7b1 : decide (5 + t180.size + 1 + a0.size + 1 ≤ 9223372036854775807) = true := decide_eq_true c7
          try have c7b2 : (9223372036854775807 < 5 + t180.size + 1 + a0.size + 1) = False := eq_false (Nat.not_lt.2 c7)
          obtain rfl := Option.some.inj H
          go_enter Tryd.func36, Tryd.ntmps36
          go_wp2_with (first | ((with_reducible refine gate_callee (f := 101) rfl ?_); refine goesL_ (some 6) rfl rfl Tryd.func101 (by kernel_rfl) rfl #[.slice A1 l1.length c1, .string (⟨#[58]⟩ : ByteArray)] rfl (by (try simp only [List.map_toArray, List.map_cons, List.map_nil]); first | done | rfl | (simp only [List.length_drop, List.length_take]; rfl) | (simp [Act.eval, *]; done)) ?_; (with_reducible refine (xansi_zzJoin.calls k _ _ l1 (⟨#[58]⟩ : ByteArray) t180 _ ?side1 ?side2 A3.out).mono ?_); (case side1 => repeat (first | exact HR1.out | (with_reducible refine Kd.C_alloc ?_ _) | (with_reducible refine Kd.C_drewN ?_ _) | (with_reducible refine Kd.C_drew ?_))); (case side2 => exact HC1.out); rintro e w' ⟨rfl, ⟨nd, rfl⟩⟩; refine ⟨_, rfl, ?_⟩))
          go_ret
          exact ⟨by first | rfl | (simp; done) | (simp [*]; done), by repeat (first | exact Drawn0.refl _ | apply Drawn0.step)⟩
        · rw [if_neg c7] at H
          exact absurd H (by simp)
      · rw [if_neg c6] at H
        exact absurd H (by simp)
    · rw [if_neg c5] at H
      exact absurd H (by simp)
  · rw [if_neg c4] at H
    exact absurd H (by simp)

/-! ### xansi_ResetHyperlink: function 37 -/
def xansi_ResetHyperlink.f (k : Nat) (l0 : List ByteArray) : Option (ByteArray) := (xansi_SetHyperlink.f k (⟨#[]⟩ : ByteArray) l0).bind fun t181 => (some t181)
theorem xansi_ResetHyperlink.mono : ∀ a0 k, LeO (xansi_ResetHyperlink.f k a0) (xansi_ResetHyperlink.f (k + 1) a0) := by
  intro a0 k
  unfold xansi_ResetHyperlink.f
  repeat' first
      | (with_reducible exact xansi_SetHyperlink.mono _ _ _)
      | (with_reducible exact LeO.refl _)
      | (with_reducible exact LeO.none _)
      | (with_reducible refine LeO.ite ?_ ?_)
      | (with_reducible refine LeO.bind ?_ (fun _ => ?_))
      | exact xansi_SetHyperlink.mono _ _ _
      | exact LeO.none _
      | refine LeO.ite ?_ ?_
      | refine LeO.bind ?_ (fun _ => ?_)
set_option maxHeartbeats 8000000 in
set_option maxRecDepth 100000 in
theorem xansi_ResetHyperlink.calls (k : Nat) (A0 : Option Addr) (c0 : Nat) (l0 : List ByteArray) (r : ByteArray) (w : World) (hr0 : Kd.C Kd.string w A0 l0.length l0) (hc0 : l0.length ≤ c0) (h : xansi_ResetHyperlink.f k l0 = some r) :
    Calls Tryd.prog 37 #[.slice A0 l0.length c0] w fun e w' => e = .returned (.string r) ∧ Drawn0 w w' := by
  have HR0 := Aside0.mk hr0
  have HC0 := Aside0.mk hc0
  clear hr0 hc0
  have H : ((xansi_SetHyperlink.f k (⟨#[]⟩ : ByteArray) l0).bind fun t181 => (some t181)) = some r := h
  clear h
  replace H := Option.bind_eq_some_iff.mp H
  obtain ⟨t181, A20, H⟩ := H
  replace H : (some t181) = some r := H
  have A2 := Aside0.mk A20
  clear A20
  obtain rfl := Option.some.inj H
  go_enter Tryd.func37, Tryd.ntmps37
  go_wp2_with (first | ((with_reducible refine gate_callee (f := 34) rfl ?_); refine goesL_ (some 4) rfl rfl Tryd.func34 (by kernel_rfl) rfl #[.string (⟨#[]⟩ : ByteArray), .slice A0 l0.length c0] rfl (by (try simp only [List.map_toArray, List.map_cons, List.map_nil]); first | done | rfl | (simp only [List.length_drop, List.length_take]; rfl) | (simp [Act.eval, *]; done)) ?_; (with_reducible refine (xansi_SetHyperlink.calls k (⟨#[]⟩ : ByteArray) _ _ l0 t181 _ ?side1 ?side2 A2.out).mono ?_); (case side1 => repeat (first | exact HR0.out | (with_reducible refine Kd.C_alloc ?_ _) | (with_reducible refine Kd.C_drewN ?_ _) | (with_reducible refine Kd.C_drew ?_))); (case side2 => exact HC0.out); rintro e w' ⟨rfl, ⟨nd, rfl⟩⟩; refine ⟨_, rfl, ?_⟩))
  go_ret
  exact ⟨by first | rfl | (simp; done) | (simp [*]; done), by repeat (first | exact Drawn0.refl _ | apply Drawn0.step)⟩

/-! ### xansi_zzHexUpper: function 102 -/
def xansi_zzHexUpper.l0 : Nat → ByteArray → List Int → Int → Option (ByteArray)
  | 0, _, _, _ => none
  | k + 1, x0, x3, x4 => if x4 < (x0.size : Int) then (if 0 ≤ x4 then (if 0 ≤ ((bt x0 x4) / 16) then (if ((bt x0 x4) / 16) < 16 then (if 0 ≤ (Go.bits .and .u8 (bt x0 x4) 15) then (if (Go.bits .and .u8 (bt x0 x4) 15) < 16 then ((some (([bt (⟨#[48, 49, 50, 51, 52, 53, 54, 55, 56, 57, 65, 66, 67, 68, 69, 70]⟩ : ByteArray) ((bt x0 x4) / 16), bt (⟨#[48, 49, 50, 51, 52, 53, 54, 55, 56, 57, 65, 66, 67, 68, 69, 70]⟩ : ByteArray) (Go.bits .and .u8 (bt x0 x4) 15)] : List Int) : List Int)).bind fun y182 => (if x3.length + y182.length < 140737488355328 then (xansi_zzHexUpper.l0 k x0 (x3 ++ y182) (wrap64 (x4 + 1))) else (none))) else (none)) else (none)) else (none)) else (none)) else (none)) else (some (strOfNums x3))
def xansi_zzHexUpper.f (k : Nat) (a0 : ByteArray) : Option (ByteArray) := xansi_zzHexUpper.l0 k a0 ([] : List Int) 0
theorem xansi_zzHexUpper.mono_l : ∀ k, (∀ y0 y1 y2, LeO (xansi_zzHexUpper.l0 k y0 y1 y2) (xansi_zzHexUpper.l0 (k + 1) y0 y1 y2))
  | 0 => fun _ _ _ r h => by simp [xansi_zzHexUpper.l0] at h
  | k + 1 => by
    have ih0 := xansi_zzHexUpper.mono_l k
    · intro y0 y1 y2
      unfold xansi_zzHexUpper.l0
      repeat' first
      | (with_reducible exact ih0 _ _ _)
      | (with_reducible exact LeO.refl _)
      | (with_reducible exact LeO.none _)
      | (with_reducible refine LeO.ite ?_ ?_)
      | (with_reducible refine LeO.bind ?_ (fun _ => ?_))
      | exact ih0 _ _ _
      | exact LeO.none _
      | refine LeO.ite ?_ ?_
      | refine LeO.bind ?_ (fun _ => ?_)
theorem xansi_zzHexUpper.mono : ∀ a0 k, LeO (xansi_zzHexUpper.f k a0) (xansi_zzHexUpper.f (k + 1) a0) := by
  intro a0 k
  have ih0 := xansi_zzHexUpper.mono_l k
  unfold xansi_zzHexUpper.f
  repeat' first
      | (with_reducible exact ih0 _ _ _)
      | (with_reducible exact LeO.refl _)
      | (with_reducible exact LeO.none _)
      | (with_reducible refine LeO.ite ?_ ?_)
      | (with_reducible refine LeO.bind ?_ (fun _ => ?_))
      | exact ih0 _ _ _
      | exact LeO.none _
      | refine LeO.ite ?_ ?_
      | refine LeO.bind ?_ (fun _ => ?_)
def xansi_zzHexUpper.T5 : Bool × List (List Nat × List Nat) := (true, [([], []), ([], []), ([], []), ([1, 2], [1, 2]), ([3], [3]), ([4], [4]), ([], []), ([], []), ([6, 7], [6, 7]), ([8], [8]), ([9], [9]), ([5, 10], [5, 10]), ([0, 11], [0, 11]), ([12, 12, 0, 1, 2, 3, 4, 5, 6, 7, 8, 9, 10, 11, 12], [0, 12])])
def xansi_zzHexUpper.B5 : List Nat := [0, 0, 0, 6, 14, 30, 0, 0, 192, 448, 960, 2046, 4095, 8191]
theorem xansi_zzHexUpper.tab5 : rtab .any (opsOf Tryd.f102 5) = xansi_zzHexUpper.T5 := by kernel_rfl
theorem xansi_zzHexUpper.bits5 : waitsOk xansi_zzHexUpper.T5.2 xansi_zzHexUpper.B5 = true := by kernel_rfl
set_option maxHeartbeats 8000000 in
set_option maxRecDepth 100000 in
theorem xansi_zzHexUpper.calls (k : Nat) (a0 : ByteArray) (r : ByteArray) (w : World) (h : xansi_zzHexUpper.f k a0 = some r) :
    Calls Tryd.prog 102 #[.string a0] w fun e w' => e = .returned (.string r) ∧ Below w.heap.size w w' := by
  have HB := Aside0.mk (Below.refl w.heap.size w)
  have H : (xansi_zzHexUpper.l0 k a0 ([] : List Int) 0) = some r := h
  clear h
  have H' := Aside0.mk H
  clear H
  go_enter Tryd.func102, Tryd.ntmps102
  go_wp2
  go_loopg [3, 4] k (fun kq v3 v4 w' => ∃ (x3_1 : List Int) (x4_1 : Int), v4 = .int .i64 x4_1 ∧ Aside0 (xansi_zzHexUpper.l0 kq a0 x3_1 x4_1 = some r) ∧ Aside0 (kq ≤ k) ∧ Aside0 (Kd.R (Kd.int .u8) 5 w' w.heap.size (fun _ => True) v3 x3_1) ∧ Aside0 (Below w.heap.size w w'))
  case atStart => exact ⟨(([] : List Int)), (0), (by first | rfl | (simp; done) | (simp [*]; done)), H', ⟨Nat.le_refl _⟩, ⟨by first | exact Kd.R_nil _ _ _ _ _ | exact Kd.N_nil _ _ _ _ _ | exact Kd.V_nil _ _ _ _ _ | exact Kd.Q_nil _ _ _ _ _ | exact Kd.S_nil _ _ _ _ _⟩, ⟨by repeat (first | (with_reducible first | exact HB.out | apply below_alloc | apply Go.Proofs.YtjjkagjdbjpikaaDoor.Ext.below_bytes | apply pw_below_drewN | apply below_drew1) | exact HB.out)⟩⟩
  case round =>
    clear H'
    try clear c1
    obtain ⟨x3_1, x4_1, rfl, HA, HK1, HO_3, HB⟩ := hrel
    cases gk with
    | zero => exact absurd HA.out (by simp [xansi_zzHexUpper.l0])
    | succ k1 =>
      have H := HA.out
      clear HA
      simp only [xansi_zzHexUpper.l0] at H
      by_cases c2 : x4_1 < (a0.size : Int)
      · rw [if_pos c2] at H
        have c2b0 : decide (x4_1 < (a0.size : Int)) = true := decide_eq_true c2
        clear c2
        by_cases c3 : 0 ≤ x4_1
        · rw [if_pos c3] at H
          have c3b0 : decide (0 ≤ x4_1) = true := decide_eq_true c3
          clear c3
          obtain ⟨ji5, hji5⟩ : ∃ j_ : Int, ((bt a0 x4_1) / 16) = j_ := ⟨_, rfl⟩
          replace H : (if 0 ≤ (ji5) then (if (ji5) < 16 then (if 0 ≤ (Go.bits .and .u8 (bt a0 x4_1) 15) then (if (Go.bits .and .u8 (bt a0 x4_1) 15) < 16 then ((some (([bt (⟨#[48, 49, 50, 51, 52, 53, 54, 55, 56, 57, 65, 66, 67, 68, 69, 70]⟩ : ByteArray) (ji5), bt (⟨#[48, 49, 50, 51, 52, 53, 54, 55, 56, 57, 65, 66, 67, 68, 69, 70]⟩ : ByteArray) (Go.bits .and .u8 (bt a0 x4_1) 15)] : List Int) : List Int)).bind fun y182 => (if x3_1.length + y182.length < 140737488355328 then (xansi_zzHexUpper.l0 k1 a0 (x3_1 ++ y182) (wrap64 (x4_1 + 1))) else (none))) else (none)) else (none)) else (none)) else (none)) = some r := by first | (rw [hji5] at H; exact H) | (simp only [hji5] at H ⊢; exact H)
          by_cases c6 : 0 ≤ (ji5)
          · rw [if_pos c6] at H
            have c6b0 : decide (0 ≤ (ji5)) = true := decide_eq_true c6
            clear c6
            by_cases c7 : (ji5) < 16
            · rw [if_pos c7] at H
              have c7b0 : decide ((ji5) < 16) = true := decide_eq_true c7
              clear c7
              by_cases c10 : 0 ≤ (Go.bits .and .u8 (bt a0 x4_1) 15)
              · rw [if_pos c10] at H
                have c10b0 : decide (0 ≤ (Go.bits .and .u8 (bt a0 x4_1) 15)) = true := decide_eq_true c10
                clear c10
                by_cases c11 : (Go.bits .and .u8 (bt a0 x4_1) 15) < 16
                · rw [if_pos c11] at H
                  have c11b0 : decide ((Go.bits .and .u8 (bt a0 x4_1) 15) < 16) = true := decide_eq_true c11
                  clear c11
                  obtain ⟨y182, hy182⟩ : ∃ y_ : List Int, y_ = (([bt (⟨#[48, 49, 50, 51, 52, 53, 54, 55, 56, 57, 65, 66, 67, 68, 69, 70]⟩ : ByteArray) (ji5), bt (⟨#[48, 49, 50, 51, 52, 53, 54, 55, 56, 57, 65, 66, 67, 68, 69, 70]⟩ : ByteArray) (Go.bits .and .u8 (bt a0 x4_1) 15)] : List Int)) := ⟨_, rfl⟩
                  replace H : (if x3_1.length + y182.length < 140737488355328 then (xansi_zzHexUpper.l0 k1 a0 (x3_1 ++ y182) (wrap64 (x4_1 + 1))) else (none)) = some r := by first | (rw [hy182]; with_reducible exact H) | (have H2_ := (Option.bind_some _ _).symm.trans H; rw [hy182]; with_reducible exact H2_) | (have H2_ := (Option.bind_some _ _).symm.trans H; with_reducible exact H2_) | with_reducible exact H | (rw [hy182]; exact H) | exact H
                  have Ny182 := Aside0.mk hy182
                  clear hy182
                  by_cases c13 : x3_1.length + y182.length < 140737488355328
                  · rw [if_pos c13] at H
                    have LMc13 := Aside0.mk c13
                    clear c13
                    obtain ⟨y185, hy185⟩ : ∃ y_ : List Int, y_ = (x3_1 ++ y182) := ⟨_, rfl⟩
                    replace H : (xansi_zzHexUpper.l0 k1 a0 y185 (wrap64 (x4_1 + 1))) = some r := by first | (rw [hy185]; with_reducible exact H) | (have H2_ := (Option.bind_some _ _).symm.trans H; rw [hy185]; with_reducible exact H2_) | (have H2_ := (Option.bind_some _ _).symm.trans H; with_reducible exact H2_) | with_reducible exact H | (rw [hy185]; exact H) | exact H
                    have Ny185 := Aside0.mk hy185
                    clear hy185
                    have H' := Aside0.mk H
                    clear H
                    try go_wp2
                    have n0_ := Aside0.mk (Kd.R_drew HO_3.out)
                    have n1_ := Aside0.mk (below_drew1 HB.out)
                    clear HO_3
                    clear HB
                    have HO_3 := n0_
                    have HB := n1_
                    clear n0_ n1_
                    have p4 : 0 ≤ (x4_1 : Int) := of_decide_eq_true (by first | (with_reducible assumption) | assumption)
                    have q4 : x4_1 < (a0.size : Int) := of_decide_eq_true (by first | (with_reducible assumption) | assumption)
                    have hx4 := bt_at a0 x4_1
                    replace p4 := eq_true p4
                    replace q4 := eq_true q4
                    have p8 : 0 ≤ ((ji5) : Int) := of_decide_eq_true (by first | (with_reducible assumption) | assumption)
                    have q8 : (ji5) < (16 : Int) := of_decide_eq_true (by first | (with_reducible assumption) | assumption)
                    have hx8 := bt_at (⟨#[48, 49, 50, 51, 52, 53, 54, 55, 56, 57, 65, 66, 67, 68, 69, 70]⟩ : ByteArray) (ji5)
                    replace p8 := eq_true p8
                    replace q8 := eq_true q8
                    have p9 : 0 ≤ (x4_1 : Int) := of_decide_eq_true (by first | (with_reducible assumption) | assumption)
                    have q9 : x4_1 < (a0.size : Int) := of_decide_eq_true (by first | (with_reducible assumption) | assumption)
                    have hx9 := bt_at a0 x4_1
                    replace p9 := eq_true p9
                    replace q9 := eq_true q9
                    have p12 : 0 ≤ ((Go.bits .and .u8 (bt a0 x4_1) 15) : Int) := of_decide_eq_true (by first | (with_reducible assumption) | assumption)
                    have q12 : (Go.bits .and .u8 (bt a0 x4_1) 15) < (16 : Int) := of_decide_eq_true (by first | (with_reducible assumption) | assumption)
                    have hx12 := bt_at (⟨#[48, 49, 50, 51, 52, 53, 54, 55, 56, 57, 65, 66, 67, 68, 69, 70]⟩ : ByteArray) (Go.bits .and .u8 (bt a0 x4_1) 15)
                    replace p12 := eq_true p12
                    replace q12 := eq_true q12
                    refine start_ (n := 14) (S := fun w' => True) (ds := []) #[false, false, false, false, false, false, false, false, false, false, false, false, false, false] (by kernel_rfl) rfl rfl trivial (fun hHeld => ?_); refine with_tabW xansi_zzHexUpper.tab5 xansi_zzHexUpper.bits5 (fun HT_ HW_ => ?_)
                    generalize wr.drew = w14 at HO_3 HB hHeld ⊢
                    refine pure_ (i := 0) (N := some 11) (v := ?_) (a' := ?_) #[true, false, false, false, false, false, false, false, false, false, false, false, false, false] rfl rfl (any_of HT_.out (by kernel_rfl)) (fun _ _ _ h => h) (Or.inl ⟨by rfl, ?_⟩) ?_ ?_
                    rotate_left
                    · intro w'
                      go_simp
                      with_reducible rfl
                    rotate_left
                    · simp only [Act.put, List.setIfInBounds_toArray, List.set_cons_zero, List.set_cons_succ, i64_w, i32_w]
                      rfl
                    refine pure_ (i := 1) (N := some 12) (v := ?_) (a' := ?_) #[true, true, false, false, false, false, false, false, false, false, false, false, false, false] rfl rfl (any_of HT_.out (by kernel_rfl)) (fun _ _ _ h => h) (Or.inl ⟨by rfl, ?_⟩) ?_ ?_
                    rotate_left
                    · intro w'
                      go_simp
                      with_reducible rfl
                    rotate_left
                    · simp only [Act.put, List.setIfInBounds_toArray, List.set_cons_zero, List.set_cons_succ, i64_w, i32_w]
                      rfl
                    refine pure_ (i := 2) (N := some 13) (v := ?_) (a' := ?_) #[true, true, true, false, false, false, false, false, false, false, false, false, false, false] rfl rfl (any_of HT_.out (by kernel_rfl)) (fun _ _ _ h => h) (Or.inl ⟨by rfl, ?_⟩) ?_ ?_
                    rotate_left
                    · intro w'
                      go_simp
                      with_reducible rfl
                    rotate_left
                    · simp only [Act.put, List.setIfInBounds_toArray, List.set_cons_zero, List.set_cons_succ, i64_w, i32_w]
                      rfl
                    refine pure_ (i := 6) (N := some 17) (v := ?_) (a' := ?_) #[true, true, true, false, false, false, true, false, false, false, false, false, false, false] rfl rfl (any_of HT_.out (by kernel_rfl)) (fun _ _ _ h => h) (Or.inl ⟨by rfl, ?_⟩) ?_ ?_
                    rotate_left
                    · intro w'
                      go_simp
                      with_reducible rfl
                    rotate_left
                    · simp only [Act.put, List.setIfInBounds_toArray, List.set_cons_zero, List.set_cons_succ, i64_w, i32_w]
                      rfl
                    refine pure_ (i := 7) (N := some 18) (v := ?_) (a' := ?_) #[true, true, true, false, false, false, true, true, false, false, false, false, false, false] rfl rfl (any_of HT_.out (by kernel_rfl)) (fun _ _ _ h => h) (Or.inl ⟨by rfl, ?_⟩) ?_ ?_
                    rotate_left
                    · intro w'
                      go_simp
                      with_reducible rfl
                    rotate_left
                    · simp only [Act.put, List.setIfInBounds_toArray, List.set_cons_zero, List.set_cons_succ, i64_w, i32_w]
                      rfl
                    refine take_ (i := 3) (N := some 14) (v := ?_) (a' := ?_) #[true, true, true, true, false, false, true, true, false, false, false, false, false, false] rfl rfl (take_ofW HT_.out HW_.out (by kernel_rfl)) (fun _ _ _ h => h) (Or.inl ⟨by rfl, ?_⟩) hHeld ?_ ?_
                    rotate_left
                    · intro w' _
                      go_simp
                      with_reducible rfl
                    rotate_left
                    · simp only [Act.put, List.setIfInBounds_toArray, List.set_cons_zero, List.set_cons_succ, i64_w, i32_w]
                      rfl
                    refine pure_ (i := 4) (N := some 15) (v := ?_) (a' := ?_) #[true, true, true, true, true, false, true, true, false, false, false, false, false, false] rfl rfl (any_of HT_.out (by kernel_rfl)) (fun _ _ _ h => h) (Or.inl ⟨by rfl, ?_⟩) ?_ ?_
                    rotate_left
                    · intro w'
                      go_simp
                      with_reducible rfl
                    rotate_left
                    · simp only [Act.put, List.setIfInBounds_toArray, List.set_cons_zero, List.set_cons_succ, i64_w, i32_w]
                      rfl
                    refine take_ (i := 5) (N := some 16) (v := ?_) (a' := ?_) #[true, true, true, true, true, true, true, true, false, false, false, false, false, false] rfl rfl (take_ofW HT_.out HW_.out (by kernel_rfl)) (fun _ _ _ h => h) (Or.inl ⟨by rfl, ?_⟩) hHeld ?_ ?_
                    rotate_left
                    · intro w' _
                      go_simp
                      with_reducible rfl
                    rotate_left
                    · simp only [Act.put, List.setIfInBounds_toArray, List.set_cons_zero, List.set_cons_succ, i64_w, i32_w]
                      rfl
                    refine take_ (i := 8) (N := some 19) (v := ?_) (a' := ?_) #[true, true, true, true, true, true, true, true, true, false, false, false, false, false] rfl rfl (take_ofW HT_.out HW_.out (by kernel_rfl)) (fun _ _ _ h => h) (Or.inl ⟨by rfl, ?_⟩) hHeld ?_ ?_
                    rotate_left
                    · intro w' _
                      go_simp
                      with_reducible rfl
                    rotate_left
                    · simp only [Act.put, List.setIfInBounds_toArray, List.set_cons_zero, List.set_cons_succ, i64_w, i32_w]
                      rfl
                    refine pure_ (i := 9) (N := some 20) (v := ?_) (a' := ?_) #[true, true, true, true, true, true, true, true, true, true, false, false, false, false] rfl rfl (any_of HT_.out (by kernel_rfl)) (fun _ _ _ h => h) (Or.inl ⟨by rfl, ?_⟩) ?_ ?_
                    rotate_left
                    · intro w'
                      go_simp
                      with_reducible rfl
                    rotate_left
                    · simp only [Act.put, List.setIfInBounds_toArray, List.set_cons_zero, List.set_cons_succ, i64_w, i32_w]
                      rfl
                    refine take_ (i := 10) (N := some 21) (v := ?_) (a' := ?_) #[true, true, true, true, true, true, true, true, true, true, true, false, false, false] rfl rfl (take_ofW HT_.out HW_.out (by kernel_rfl)) (fun _ _ _ h => h) (Or.inl ⟨by rfl, ?_⟩) hHeld ?_ ?_
                    rotate_left
                    · intro w' _
                      go_simp
                      with_reducible rfl
                    rotate_left
                    · simp only [Act.put, List.setIfInBounds_toArray, List.set_cons_zero, List.set_cons_succ, i64_w, i32_w]
                      rfl
                    refine one_ (i := 11) (N := some 22) #[true, true, true, true, true, true, true, true, true, true, true, true, false, false] rfl rfl (one_of HT_.out (by kernel_rfl)) (by decide) (fun K hK => ?_)
                    refine Kd.R_lit_step (Kd.int .u8) _ 5 ?hg (N := 22) ?hd (xs := ([bt (⟨#[48, 49, 50, 51, 52, 53, 54, 55, 56, 57, 65, 66, 67, 68, 69, 70]⟩ : ByteArray) (ji5), bt (⟨#[48, 49, 50, 51, 52, 53, 54, 55, 56, 57, 65, 66, 67, 68, 69, 70]⟩ : ByteArray) (Go.bits .and .u8 (bt a0 x4_1) 15)] : List Int)) (inner := [.int .u8 (bt (⟨#[48, 49, 50, 51, 52, 53, 54, 55, 56, 57, 65, 66, 67, 68, 69, 70]⟩ : ByteArray) (ji5)), .int .u8 (bt (⟨#[48, 49, 50, 51, 52, 53, 54, 55, 56, 57, 65, 66, 67, 68, 69, 70]⟩ : ByteArray) (Go.bits .and .u8 (bt a0 x4_1) 15))]) (ok := fun _ => True) (okp := fun _ => True) ?hr ?hp (fun _ hk => hk) trivial (Below.refl _ _) (Nat.le_refl _) (by simp) ?_; (case hd => rfl); (case hg => rfl); (case hr => first | (go_simp; done) | (go_simp; rfl)); (case hp => exact (Reps.one (show Kd.M (Kd.int .u8) _ _ _ (bt (⟨#[48, 49, 50, 51, 52, 53, 54, 55, 56, 57, 65, 66, 67, 68, 69, 70]⟩ : ByteArray) (ji5)) [.int .u8 (bt (⟨#[48, 49, 50, 51, 52, 53, 54, 55, 56, 57, 65, 66, 67, 68, 69, 70]⟩ : ByteArray) (ji5))] from rfl) (Reps.one (show Kd.M (Kd.int .u8) _ _ _ (bt (⟨#[48, 49, 50, 51, 52, 53, 54, 55, 56, 57, 65, 66, 67, 68, 69, 70]⟩ : ByteArray) (Go.bits .and .u8 (bt a0 x4_1) 15)) [.int .u8 (bt (⟨#[48, 49, 50, 51, 52, 53, 54, 55, 56, 57, 65, 66, 67, 68, 69, 70]⟩ : ByteArray) (Go.bits .and .u8 (bt a0 x4_1) 15))] from rfl) (Reps.none _ _))))
                    intro v183 w15 ho16 hb hg_ hnew_
                    clear hg_ hnew_
                    (first | rw [← Ny182.out] at ho16 | (simp only [Int.reduceToNat] at ho16; rw [← Ny182.out] at ho16))
                    have n0_ := Aside0.mk (Kd.R_elder' (by (with_reducible repeat (first | apply Kd.R_alloc | apply Go.Proofs.YtjjkagjdbjpikaaDoor.Ext.R_bytes | apply Kd.R_drewN | apply Kd.R_drew)); exact HO_3.out) (Kd.R_base ho16) hb)
                    have n1_ := Aside0.mk (Kd.R_lower (Kd.R_new' ho16 (Kd.R_lt (by (with_reducible repeat (first | apply Kd.R_alloc | apply Go.Proofs.YtjjkagjdbjpikaaDoor.Ext.R_bytes | apply Kd.R_drewN | apply Kd.R_drew)); exact HO_3.out))) (below_size (by repeat (first | (with_reducible first | exact HB.out | apply below_alloc | apply Go.Proofs.YtjjkagjdbjpikaaDoor.Ext.below_bytes | apply pw_below_drewN | apply below_drew1) | exact HB.out))))
                    have n2_ := Aside0.mk (below_step (by repeat (first | (with_reducible first | exact HB.out | apply below_alloc | apply Go.Proofs.YtjjkagjdbjpikaaDoor.Ext.below_bytes | apply pw_below_drewN | apply below_drew1) | exact HB.out)) hb)
                    clear HO_3
                    clear HB
                    have HO_3 := n0_
                    have HO184 := n1_
                    have HB := n2_
                    clear n0_ n1_ n2_
                    clear hb ho16
                    obtain ⟨Ao18, co18, eo18⟩ := Kd.R_slice HO184.out
                    (first | subst eo18 | (injection eo18 with f1_ f2_ f3_; have f4_ := f1_.symm; have f5_ := f3_.symm; clear f1_ f2_ f3_; subst f4_; subst f5_))
                    refine hK.out _ _ trivial (fun hHeld => ?_)
                    clear hK K
                    refine norm_ (a' := ?_) ?_ ?_
                    rotate_left
                    · show Act.put _ (some 22) _ = _
                      simp only [Act.put, List.setIfInBounds_toArray, List.set_cons_zero, List.set_cons_succ, i64_w, i32_w]
                      rfl
                    refine one_ (i := 12) (N := some 23) #[true, true, true, true, true, true, true, true, true, true, true, true, true, false] rfl rfl (one_of HT_.out (by kernel_rfl)) (by decide) (fun K hK => ?_)
                    refine Kd.R_append_rows_step (Kd.int .u8) (w0 := w) w.heap.size (by rfl) (.tmp 11) (.tmp 22) 32 5 (.int .u8 0) 1 rfl Tryd.underlying32 info5 rfl (by decide) (by omega) u3 x3_1 y182 _ _ _ (fun k_ => some k_ ≠ (.slice Ao18 y182.length co18 : Value).ownBlock) (fun _ => False) rfl rfl ?aO ?aR (fun _ _ h => h) (fun _ h => h.elim) ?aF ?aB ?aS ?aL ?_
                    (case aR => repeat (first | exact (Kd.R_reads' HO184.out).2.2 | (with_reducible refine Kd.C_alloc ?_ _) | (with_reducible refine Kd.C_drewN ?_ _) | (with_reducible refine Kd.C_drew ?_)))
                    (case aB => exact (by repeat (first | (with_reducible first | exact HB.out | apply below_alloc | apply Go.Proofs.YtjjkagjdbjpikaaDoor.Ext.below_bytes | apply pw_below_drewN | apply below_drew1) | exact HB.out)))
                    (case aF => exact (fun k_ hk => Kd.fresh' (Kd.R_lt (by (with_reducible repeat (first | apply Kd.R_alloc | apply Go.Proofs.YtjjkagjdbjpikaaDoor.Ext.R_bytes | apply Kd.R_drewN | apply Kd.R_drew)); exact HO184.out)) k_ hk))
                    (case aO => exact (by (with_reducible repeat (first | apply Kd.R_alloc | apply Go.Proofs.YtjjkagjdbjpikaaDoor.Ext.R_bytes | apply Kd.R_drewN | apply Kd.R_drew)); exact Kd.R_mono HO_3.out (fun _ hk => hk.2)))
                    (case aS => exact (below_size (by repeat (first | (with_reducible first | exact HB.out | apply below_alloc | apply Go.Proofs.YtjjkagjdbjpikaaDoor.Ext.below_bytes | apply pw_below_drewN | apply below_drew1) | exact HB.out))))
                    (case aL => have := LMc13.out; omega)
                    intro v186 w17 ho hb hg hat
                    rw [← Ny185.out] at ho
                    have n0_ := Aside0.mk (Kd.R_after (ok := (fun _ => True)) (by (with_reducible repeat (first | apply Kd.R_alloc | apply Go.Proofs.YtjjkagjdbjpikaaDoor.Ext.R_bytes | apply Kd.R_drewN | apply Kd.R_drew)); exact HO184.out) hg hat)
                    have n1_ := Aside0.mk (hb)
                    have n2_ := Aside0.mk (ho)
                    clear HO184
                    clear HB
                    clear HO_3
                    have HO184 := n0_
                    have HB := n1_
                    have HO187 := n2_
                    clear n0_ n1_ n2_
                    clear ho hb hg hat
                    refine hK.out _ _ trivial (fun hHeld => ?_)
                    clear hK K
                    refine norm_ (a' := ?_) ?_ ?_
                    rotate_left
                    · show Act.put _ (some 23) _ = _
                      simp only [Act.put, List.setIfInBounds_toArray, List.set_cons_zero, List.set_cons_succ, i64_w, i32_w]
                      rfl
                    refine pure_ (i := 13) (N := some 3) (v := ?_) (a' := ?_) #[true, true, true, true, true, true, true, true, true, true, true, true, true, true] rfl rfl (any_of HT_.out (by kernel_rfl)) (fun _ _ _ h => h) (Or.inl ⟨by rfl, ?_⟩) ?_ ?_
                    rotate_left
                    · intro w'
                      go_simp
                      with_reducible rfl
                    rotate_left
                    · simp only [Act.put, List.setIfInBounds_toArray, List.set_cons_zero, List.set_cons_succ, i64_w, i32_w]
                      rfl
                    refine done_ (done_of HT_.out (by kernel_rfl)) ?_
                    try go_wp2
                    go_roundg k1
                    case measure => have := HK1.out; omega
                    case rel => exact ⟨(y185), (wrap64 (x4_1 + 1)), (by first | rfl | (simp; done) | (simp [*]; done)), H', ⟨by have := HK1.out; omega⟩, ⟨by (with_reducible repeat (first | apply Kd.R_alloc | apply Go.Proofs.YtjjkagjdbjpikaaDoor.Ext.R_bytes | apply Kd.R_drewN | apply Kd.R_drew)); exact Kd.R_mono HO187.out (fun _ hk => trivial)⟩, ⟨by repeat (first | (with_reducible first | exact HB.out | apply below_alloc | apply Go.Proofs.YtjjkagjdbjpikaaDoor.Ext.below_bytes | apply pw_below_drewN | apply below_drew1) | exact HB.out)⟩⟩
                  · rw [if_neg c13] at H
                    exact absurd H (by simp)
                · rw [if_neg c11] at H
                  exact absurd H (by simp)
              · rw [if_neg c10] at H
                exact absurd H (by simp)
            · rw [if_neg c7] at H
              exact absurd H (by simp)
          · rw [if_neg c6] at H
            exact absurd H (by simp)
        · rw [if_neg c3] at H
          exact absurd H (by simp)
      · rw [if_neg c2] at H
        have c2b0 : decide (x4_1 < (a0.size : Int)) = false := decide_eq_false c2
        clear c2
        obtain rfl := Option.some.inj H
        have hcv19 := own_string (P := Tryd.prog) Tryd.underlying32 Tryd.underlying5 Tryd.underlying9 (Kd.own_of_R HO_3.out)
        go_wp2
        go_ret
        exact ⟨by first | rfl | (simp [errW_none, errW_some] <;> rfl) | (simp [*, errW_none, errW_some] <;> rfl), by repeat (first | (with_reducible first | exact HB.out | apply below_alloc | apply Go.Proofs.YtjjkagjdbjpikaaDoor.Ext.below_bytes | apply pw_below_drewN | apply below_drew1) | exact HB.out)⟩

/-! ### xansi_XTGETTCAP: function 38 -/
def xansi_XTGETTCAP.l0 : Nat → ByteArray → List ByteArray → Int → Int → Option (ByteArray)
  | 0, _, _, _, _ => none
  | k + 1, x3, x9, x10, x11 => if x11 < x10 then (if 0 ≤ x11 then (if x11 < (x9.length : Int) then (if x11 > 0 then (if x3.size + 1 ≤ 9223372036854775807 then ((xansi_zzHexUpper.f k (rdOf ByteArray.empty x9 x11)).bind fun t189 => (if x3.size + 1 + t189.size ≤ 9223372036854775807 then (xansi_XTGETTCAP.l0 k ((x3 ++ (⟨#[59]⟩ : ByteArray)) ++ t189) x9 x10 (wrap64 (x11 + 1))) else (none))) else (none)) else ((xansi_zzHexUpper.f k (rdOf ByteArray.empty x9 x11)).bind fun t190 => (if x3.size + t190.size ≤ 9223372036854775807 then (xansi_XTGETTCAP.l0 k (x3 ++ t190) x9 x10 (wrap64 (x11 + 1))) else (none)))) else (none)) else (none)) else (if x3.size + 2 ≤ 9223372036854775807 then (some (x3 ++ (⟨#[27, 92]⟩ : ByteArray))) else (none))
def xansi_XTGETTCAP.f (k : Nat) (l0 : List ByteArray) : Option (ByteArray) := if (l0.length : Int) = 0 then (some (⟨#[]⟩ : ByteArray)) else (xansi_XTGETTCAP.l0 k (⟨#[27, 80, 43, 113]⟩ : ByteArray) l0 (l0.length : Int) 0)
theorem xansi_XTGETTCAP.mono_l : ∀ k, (∀ y0 y1 y2 y3, LeO (xansi_XTGETTCAP.l0 k y0 y1 y2 y3) (xansi_XTGETTCAP.l0 (k + 1) y0 y1 y2 y3))
  | 0 => fun _ _ _ _ r h => by simp [xansi_XTGETTCAP.l0] at h
  | k + 1 => by
    have ih0 := xansi_XTGETTCAP.mono_l k
    · intro y0 y1 y2 y3
      unfold xansi_XTGETTCAP.l0
      repeat' first
      | (with_reducible exact ih0 _ _ _ _)
      | (with_reducible exact xansi_zzHexUpper.mono _ _)
      | (with_reducible exact LeO.refl _)
      | (with_reducible exact LeO.none _)
      | (with_reducible refine LeO.ite ?_ ?_)
      | (with_reducible refine LeO.bind ?_ (fun _ => ?_))
      | exact ih0 _ _ _ _
      | exact xansi_zzHexUpper.mono _ _
      | exact LeO.none _
      | refine LeO.ite ?_ ?_
      | refine LeO.bind ?_ (fun _ => ?_)
theorem xansi_XTGETTCAP.mono : ∀ a0 k, LeO (xansi_XTGETTCAP.f k a0) (xansi_XTGETTCAP.f (k + 1) a0) := by
  intro a0 k
  have ih0 := xansi_XTGETTCAP.mono_l k
  unfold xansi_XTGETTCAP.f
  repeat' first
      | (with_reducible exact ih0 _ _ _ _)
      | (with_reducible exact xansi_zzHexUpper.mono _ _)
      | (with_reducible exact LeO.refl _)
      | (with_reducible exact LeO.none _)
      | (with_reducible refine LeO.ite ?_ ?_)
      | (with_reducible refine LeO.bind ?_ (fun _ => ?_))
      | exact ih0 _ _ _ _
      | exact xansi_zzHexUpper.mono _ _
      | exact LeO.none _
      | refine LeO.ite ?_ ?_
      | refine LeO.bind ?_ (fun _ => ?_)
set_option maxHeartbeats 8000000 in
set_option maxRecDepth 100000 in
theorem xansi_XTGETTCAP.calls (k : Nat) (A0 : Option Addr) (c0 : Nat) (l0 : List ByteArray) (r : ByteArray) (w : World) (hr0 : Kd.C Kd.string w A0 l0.length l0) (hc0 : l0.length ≤ c0) (h : xansi_XTGETTCAP.f k l0 = some r) :
    Calls Tryd.prog 38 #[.slice A0 l0.length c0] w fun e w' => e = .returned (.string r) ∧ Below w.heap.size w w' := by
  have HR0 := Aside0.mk hr0
  have HC0 := Aside0.mk hc0
  clear hr0 hc0
  have HB := Aside0.mk (Below.refl w.heap.size w)
  have H : (if (l0.length : Int) = 0 then (some (⟨#[]⟩ : ByteArray)) else (xansi_XTGETTCAP.l0 k (⟨#[27, 80, 43, 113]⟩ : ByteArray) l0 (l0.length : Int) 0)) = some r := h
  clear h
  by_cases c2 : (l0.length : Int) = 0
  · rw [if_pos c2] at H
    have c2b0 : ((l0.length : Int) == 0) = true := beq_iff_eq.mpr c2
    have c2b1 : ((l0.length : Int) != 0) = false := bne_eq_false_iff_eq.mpr c2
    clear c2
    obtain rfl := Option.some.inj H
    go_enter Tryd.func38, Tryd.ntmps38
    go_wp2
    go_ret
    exact ⟨by first | rfl | (simp [errW_none, errW_some] <;> rfl) | (simp [*, errW_none, errW_some] <;> rfl), by repeat (first | (with_reducible first | exact HB.out | apply below_alloc | apply Go.Proofs.YtjjkagjdbjpikaaDoor.Ext.below_bytes | apply pw_below_drewN | apply below_drew1) | exact HB.out)⟩
  · rw [if_neg c2] at H
    have c2b0 : ((l0.length : Int) == 0) = false := beq_eq_false_iff_ne.mpr c2
    have c2b1 : ((l0.length : Int) != 0) = true := bne_iff_ne.mpr c2
    have c2b2 : ¬ (l0 = []) := fun h_ => c2 (by rw [h_]; rfl)
    have H' := Aside0.mk H
    clear H
    go_enter Tryd.func38, Tryd.ntmps38
    go_wp2
    go_loopg [3, 11] k (fun kq v3 v11 w' => ∃ (x3_1 : ByteArray) (x11_1 : Int), v3 = .string x3_1 ∧ v11 = .int .i64 x11_1 ∧ Aside0 (xansi_XTGETTCAP.l0 kq x3_1 l0 (l0.length : Int) x11_1 = some r) ∧ Aside0 (kq ≤ k) ∧ Aside0 (Below w.heap.size w w'))
    case atStart => exact ⟨((⟨#[27, 80, 43, 113]⟩ : ByteArray)), (0), (by first | rfl | (simp; done) | (simp [*]; done)), (by first | rfl | (simp; done) | (simp [*]; done)), H', ⟨Nat.le_refl _⟩, ⟨by repeat (first | (with_reducible first | exact HB.out | apply below_alloc | apply Go.Proofs.YtjjkagjdbjpikaaDoor.Ext.below_bytes | apply pw_below_drewN | apply below_drew1) | exact HB.out)⟩⟩
    case round =>
      clear H'
      try clear c2
      try clear c2b0
      try clear c2b1
      try clear c2b2
      try clear p2
      obtain ⟨x3_1, x11_1, rfl, rfl, HA, HK1, HB⟩ := hrel
      cases gk with
      | zero => exact absurd HA.out (by simp [xansi_XTGETTCAP.l0])
      | succ k1 =>
        have H := HA.out
        clear HA
        simp only [xansi_XTGETTCAP.l0] at H
        by_cases c3 : x11_1 < (l0.length : Int)
        · rw [if_pos c3] at H
          have c3b0 : decide (x11_1 < (l0.length : Int)) = true := decide_eq_true c3
          clear c3
          by_cases c4 : 0 ≤ x11_1
          · rw [if_pos c4] at H
            have c4b0 : decide (0 ≤ x11_1) = true := decide_eq_true c4
            clear c4
            by_cases c5 : x11_1 < (l0.length : Int)
            · rw [if_pos c5] at H
              have c5b0 : decide (x11_1 < (l0.length : Int)) = true := decide_eq_true c5
              clear c5
              by_cases c6 : x11_1 > 0
              · rw [if_pos c6] at H
                have c6b0 : decide (0 < x11_1) = true := decide_eq_true c6
                clear c6
                by_cases c7 : x3_1.size + 1 ≤ 9223372036854775807
                · rw [if_pos c7] at H
                  have c7b0 := eq_true c7
                  have c7b1 : decide (x3_1.size + 1 ≤ 9223372036854775807) = true := decide_eq_true c7
                  try have c7b2 : (9223372036854775807 < x3_1.size + 1) = False := eq_false (Nat.not_lt.2 c7)
                  replace H := Option.bind_eq_some_iff.mp H
                  obtain ⟨t189, A80, H⟩ := H
                  replace H : (if x3_1.size + 1 + t189.size ≤ 9223372036854775807 then (xansi_XTGETTCAP.l0 k1 ((x3_1 ++ (⟨#[59]⟩ : ByteArray)) ++ t189) l0 (l0.length : Int) (wrap64 (x11_1 + 1))) else (none)) = some r := H
                  have A8 := Aside0.mk A80
                  clear A80
                  by_cases c9 : x3_1.size + 1 + t189.size ≤ 9223372036854775807
                  · rw [if_pos c9] at H
                    have c9b0 := eq_true c9
                    have c9b1 : decide (x3_1.size + 1 + t189.size ≤ 9223372036854775807) = true := decide_eq_true c9
                    try have c9b2 : (9223372036854775807 < x3_1.size + 1 + t189.size) = False := eq_false (Nat.not_lt.2 c9)
                    have H' := Aside0.mk H
                    clear H
                    have p188 : 0 ≤ (x11_1 : Int) := of_decide_eq_true (by first | (with_reducible assumption) | assumption)
                    have q188 : x11_1 < (l0.length : Int) := of_decide_eq_true (by first | (with_reducible assumption) | assumption)
                    obtain ⟨ad188, e188, hx188_0⟩ := Kd.at_string HR0.out x11_1 p188 q188
                    cases e188
                    replace hx188_0 := (HB.out.cell (World.block_lt_of_cell? w _ hx188_0)).trans hx188_0
                    replace p188 := eq_true p188
                    replace q188 := eq_true q188
                    go_wp2_with (first | ((with_reducible refine gate_callee (f := 102) rfl ?_); refine goesL_ (some 22) rfl rfl Tryd.func102 (by kernel_rfl) rfl #[.string (rdOf ByteArray.empty l0 x11_1)] rfl (by (try simp only [List.map_toArray, List.map_cons, List.map_nil]); first | done | rfl | (simp only [List.length_drop, List.length_take]; rfl) | (simp [Act.eval, *]; done)) ?_; (with_reducible refine (xansi_zzHexUpper.calls k1 (rdOf ByteArray.empty l0 x11_1) t189 _ A8.out).mono ?_); rintro e w10 ⟨rfl, hb⟩; refine ⟨_, rfl, ?_⟩; have n0_ := Aside0.mk (below_step (by repeat (first | (with_reducible first | exact HB.out | apply below_alloc | apply Go.Proofs.YtjjkagjdbjpikaaDoor.Ext.below_bytes | apply pw_below_drewN | apply below_drew1) | exact HB.out)) hb); clear HB; have HB := n0_; clear n0_; (try clear hb); (try clear hb2); (try clear hk); (try clear hi)))
                    go_roundg k1
                    case measure => have := HK1.out; omega
                    case rel => exact ⟨((x3_1 ++ (⟨#[59]⟩ : ByteArray)) ++ t189), (wrap64 (x11_1 + 1)), (by first | rfl | (simp; done) | (simp [*]; done)), (by first | rfl | (simp; done) | (simp [*]; done)), H', ⟨by have := HK1.out; omega⟩, ⟨by repeat (first | (with_reducible first | exact HB.out | apply below_alloc | apply Go.Proofs.YtjjkagjdbjpikaaDoor.Ext.below_bytes | apply pw_below_drewN | apply below_drew1) | exact HB.out)⟩⟩
                  · rw [if_neg c9] at H
                    exact absurd H (by simp)
                · rw [if_neg c7] at H
                  exact absurd H (by simp)
              · rw [if_neg c6] at H
                have c6b0 : decide (0 < x11_1) = false := decide_eq_false c6
                clear c6
                replace H := Option.bind_eq_some_iff.mp H
                obtain ⟨t190, A110, H⟩ := H
                replace H : (if x3_1.size + t190.size ≤ 9223372036854775807 then (xansi_XTGETTCAP.l0 k1 (x3_1 ++ t190) l0 (l0.length : Int) (wrap64 (x11_1 + 1))) else (none)) = some r := H
                have A11 := Aside0.mk A110
                clear A110
                by_cases c12 : x3_1.size + t190.size ≤ 9223372036854775807
                · rw [if_pos c12] at H
                  have c12b0 := eq_true c12
                  have c12b1 : decide (x3_1.size + t190.size ≤ 9223372036854775807) = true := decide_eq_true c12
                  try have c12b2 : (9223372036854775807 < x3_1.size + t190.size) = False := eq_false (Nat.not_lt.2 c12)
                  have H' := Aside0.mk H
                  clear H
                  have p188 : 0 ≤ (x11_1 : Int) := of_decide_eq_true (by first | (with_reducible assumption) | assumption)
                  have q188 : x11_1 < (l0.length : Int) := of_decide_eq_true (by first | (with_reducible assumption) | assumption)
                  obtain ⟨ad188, e188, hx188_0⟩ := Kd.at_string HR0.out x11_1 p188 q188
                  cases e188
                  replace hx188_0 := (HB.out.cell (World.block_lt_of_cell? w _ hx188_0)).trans hx188_0
                  replace p188 := eq_true p188
                  replace q188 := eq_true q188
                  go_wp2_with (first | ((with_reducible refine gate_callee (f := 102) rfl ?_); refine goesL_ (some 22) rfl rfl Tryd.func102 (by kernel_rfl) rfl #[.string (rdOf ByteArray.empty l0 x11_1)] rfl (by (try simp only [List.map_toArray, List.map_cons, List.map_nil]); first | done | rfl | (simp only [List.length_drop, List.length_take]; rfl) | (simp [Act.eval, *]; done)) ?_; (with_reducible refine (xansi_zzHexUpper.calls k1 (rdOf ByteArray.empty l0 x11_1) t190 _ A11.out).mono ?_); rintro e w13 ⟨rfl, hb⟩; refine ⟨_, rfl, ?_⟩; have n0_ := Aside0.mk (below_step (by repeat (first | (with_reducible first | exact HB.out | apply below_alloc | apply Go.Proofs.YtjjkagjdbjpikaaDoor.Ext.below_bytes | apply pw_below_drewN | apply below_drew1) | exact HB.out)) hb); clear HB; have HB := n0_; clear n0_; (try clear hb); (try clear hb2); (try clear hk); (try clear hi)))
                  go_roundg k1
                  case measure => have := HK1.out; omega
                  case rel => exact ⟨(x3_1 ++ t190), (wrap64 (x11_1 + 1)), (by first | rfl | (simp; done) | (simp [*]; done)), (by first | rfl | (simp; done) | (simp [*]; done)), H', ⟨by have := HK1.out; omega⟩, ⟨by repeat (first | (with_reducible first | exact HB.out | apply below_alloc | apply Go.Proofs.YtjjkagjdbjpikaaDoor.Ext.below_bytes | apply pw_below_drewN | apply below_drew1) | exact HB.out)⟩⟩
                · rw [if_neg c12] at H
                  exact absurd H (by simp)
            · rw [if_neg c5] at H
              exact absurd H (by simp)
          · rw [if_neg c4] at H
            exact absurd H (by simp)
        · rw [if_neg c3] at H
          have c3b0 : decide (x11_1 < (l0.length : Int)) = false := decide_eq_false c3
          clear c3
          by_cases c14 : x3_1.size + 2 ≤ 9223372036854775807
          · rw [if_pos c14] at H
            have c14b0 := eq_true c14
            have c14b1 : decide (x3_1.size + 2 ≤ 9223372036854775807) = true := decide_eq_true c14
            try have c14b2 : (9223372036854775807 < x3_1.size + 2) = False := eq_false (Nat.not_lt.2 c14)
            obtain rfl := Option.some.inj H
            go_wp2
            go_ret
            exact ⟨by first | rfl | (simp [errW_none, errW_some] <;> rfl) | (simp [*, errW_none, errW_some] <;> rfl), by repeat (first | (with_reducible first | exact HB.out | apply below_alloc | apply Go.Proofs.YtjjkagjdbjpikaaDoor.Ext.below_bytes | apply pw_below_drewN | apply below_drew1) | exact HB.out)⟩
          · rw [if_neg c14] at H
            exact absurd H (by simp)

/-! ### xansi_FinalTerm: function 39 -/
def xansi_FinalTerm.f (k : Nat) (l0 : List ByteArray) : Option (ByteArray) := (xansi_zzJoin.f k l0 (⟨#[59]⟩ : ByteArray)).bind fun t191 => (if 6 + t191.size ≤ 9223372036854775807 then (if 6 + t191.size + 1 ≤ 9223372036854775807 then (some (((⟨#[27, 93, 49, 51, 51, 59]⟩ : ByteArray) ++ t191) ++ (⟨#[7]⟩ : ByteArray))) else (none)) else (none))
theorem xansi_FinalTerm.mono : ∀ a0 k, LeO (xansi_FinalTerm.f k a0) (xansi_FinalTerm.f (k + 1) a0) := by
  intro a0 k
  unfold xansi_FinalTerm.f
  repeat' first
      | (with_reducible exact xansi_zzJoin.mono _ _ _)
      | (with_reducible exact LeO.refl _)
      | (with_reducible exact LeO.none _)
      | (with_reducible refine LeO.ite ?_ ?_)
      | (with_reducible refine LeO.bind ?_ (fun _ => ?_))
      | exact xansi_zzJoin.mono _ _ _
      | exact LeO.none _
      | refine LeO.ite ?_ ?_
      | refine LeO.bind ?_ (fun _ => ?_)
set_option maxHeartbeats 8000000 in
set_option maxRecDepth 100000 in
theorem xansi_FinalTerm.calls (k : Nat) (A0 : Option Addr) (c0 : Nat) (l0 : List ByteArray) (r : ByteArray) (w : World) (hr0 : Kd.C Kd.string w A0 l0.length l0) (hc0 : l0.length ≤ c0) (h : xansi_FinalTerm.f k l0 = some r) :
    Calls Tryd.prog 39 #[.slice A0 l0.length c0] w fun e w' => e = .returned (.string r) ∧ Drawn0 w w' := by
  have HR0 := Aside0.mk hr0
  have HC0 := Aside0.mk hc0
  clear hr0 hc0
  have H : ((xansi_zzJoin.f k l0 (⟨#[59]⟩ : ByteArray)).bind fun t191 => (if 6 + t191.size ≤ 9223372036854775807 then (if 6 + t191.size + 1 ≤ 9223372036854775807 then (some (((⟨#[27, 93, 49, 51, 51, 59]⟩ : ByteArray) ++ t191) ++ (⟨#[7]⟩ : ByteArray))) else (none)) else (none))) = some r := h
  clear h
  replace H := Option.bind_eq_some_iff.mp H
  obtain ⟨t191, A20, H⟩ := H
  replace H : (if 6 + t191.size ≤ 9223372036854775807 then (if 6 + t191.size + 1 ≤ 9223372036854775807 then (some (((⟨#[27, 93, 49, 51, 51, 59]⟩ : ByteArray) ++ t191) ++ (⟨#[7]⟩ : ByteArray))) else (none)) else (none)) = some r := H
  have A2 := Aside0.mk A20
  clear A20
  by_cases c3 : 6 + t191.size ≤ 9223372036854775807
  · rw [if_pos c3] at H
    have c3b0 := eq_true c3
    have c3b1 : decide (6 + t191.size ≤ 9223372036854775807) = true := decide_eq_true c3
    try have c3b2 : (9223372036854775807 < 6 + t191.size) = False := eq_false (Nat.not_lt.2 c3)
    by_cases c4 : 6 + t191.size + 1 ≤ 9223372036854775807
    · rw [if_pos c4] at H
      have c4b0 := eq_true c4
      have c4b1 : decide (6 + t191.size + 1 ≤ 9223372036854775807) = true := decide_eq_true c4
      try have c4b2 : (9223372036854775807 < 6 + t191.size + 1) = False := eq_false (Nat.not_lt.2 c4)
      obtain rfl := Option.some.inj H
      go_enter Tryd.func39, Tryd.ntmps39
      go_wp2_with (first | ((with_reducible refine gate_callee (f := 101) rfl ?_); refine goesL_ (some 4) rfl rfl Tryd.func101 (by kernel_rfl) rfl #[.slice A0 l0.length c0, .string (⟨#[59]⟩ : ByteArray)] rfl (by (try simp only [List.map_toArray, List.map_cons, List.map_nil]); first | done | rfl | (simp only [List.length_drop, List.length_take]; rfl) | (simp [Act.eval, *]; done)) ?_; (with_reducible refine (xansi_zzJoin.calls k _ _ l0 (⟨#[59]⟩ : ByteArray) t191 _ ?side1 ?side2 A2.out).mono ?_); (case side1 => repeat (first | exact HR0.out | (with_reducible refine Kd.C_alloc ?_ _) | (with_reducible refine Kd.C_drewN ?_ _) | (with_reducible refine Kd.C_drew ?_))); (case side2 => exact HC0.out); rintro e w' ⟨rfl, ⟨nd, rfl⟩⟩; refine ⟨_, rfl, ?_⟩))
      go_ret
      exact ⟨by first | rfl | (simp; done) | (simp [*]; done), by repeat (first | exact Drawn0.refl _ | apply Drawn0.step)⟩
    · rw [if_neg c4] at H
      exact absurd H (by simp)
  · rw [if_neg c3] at H
    exact absurd H (by simp)

/-! ### xansi_FinalTermPrompt: function 40 -/
def xansi_FinalTermPrompt.f (k : Nat) (l0 : List ByteArray) : Option (ByteArray) := if (l0.length : Int) = 0 then ((xansi_FinalTerm.f k (([(⟨#[65]⟩ : ByteArray)] : List ByteArray))).bind fun t195 => (some t195)) else ((some (([(⟨#[65]⟩ : ByteArray)] : List ByteArray) : List ByteArray)).bind fun y196 => (if y196.length + l0.length < 8796093022208 then ((xansi_FinalTerm.f k (y196 ++ l0)).bind fun t202 => (some t202)) else (none)))
theorem xansi_FinalTermPrompt.mono : ∀ a0 k, LeO (xansi_FinalTermPrompt.f k a0) (xansi_FinalTermPrompt.f (k + 1) a0) := by
  intro a0 k
  unfold xansi_FinalTermPrompt.f
  repeat' first
      | (with_reducible exact xansi_FinalTerm.mono _ _)
      | (with_reducible exact LeO.refl _)
      | (with_reducible exact LeO.none _)
      | (with_reducible refine LeO.ite ?_ ?_)
      | (with_reducible refine LeO.bind ?_ (fun _ => ?_))
      | exact xansi_FinalTerm.mono _ _
      | exact LeO.none _
      | refine LeO.ite ?_ ?_
      | refine LeO.bind ?_ (fun _ => ?_)
set_option maxHeartbeats 8000000 in
set_option maxRecDepth 100000 in
theorem xansi_FinalTermPrompt.calls (k : Nat) (A0 : Option Addr) (c0 : Nat) (l0 : List ByteArray) (r : ByteArray) (w : World) (hr0 : Kd.C Kd.string w A0 l0.length l0) (hc0 : l0.length ≤ c0) (h : xansi_FinalTermPrompt.f k l0 = some r) :
    Calls Tryd.prog 40 #[.slice A0 l0.length c0] w fun e w' => e = .returned (.string r) ∧ Below w.heap.size w w' := by
  have HR0 := Aside0.mk hr0
  have HC0 := Aside0.mk hc0
  clear hr0 hc0
  have HB := Aside0.mk (Below.refl w.heap.size w)
  have H : (if (l0.length : Int) = 0 then ((xansi_FinalTerm.f k (([(⟨#[65]⟩ : ByteArray)] : List ByteArray))).bind fun t195 => (some t195)) else ((some (([(⟨#[65]⟩ : ByteArray)] : List ByteArray) : List ByteArray)).bind fun y196 => (if y196.length + l0.length < 8796093022208 then ((xansi_FinalTerm.f k (y196 ++ l0)).bind fun t202 => (some t202)) else (none)))) = some r := h
  clear h
  by_cases c2 : (l0.length : Int) = 0
  · rw [if_pos c2] at H
    have c2b0 : ((l0.length : Int) == 0) = true := beq_iff_eq.mpr c2
    have c2b1 : ((l0.length : Int) != 0) = false := bne_eq_false_iff_eq.mpr c2
    clear c2
    obtain ⟨y192, hy192⟩ : ∃ y_ : List ByteArray, y_ = (([(⟨#[65]⟩ : ByteArray)] : List ByteArray)) := ⟨_, rfl⟩
    replace H : ((xansi_FinalTerm.f k y192).bind fun t195 => (some t195)) = some r := by first | (rw [hy192]; with_reducible exact H) | (have H2_ := (Option.bind_some _ _).symm.trans H; rw [hy192]; with_reducible exact H2_) | (have H2_ := (Option.bind_some _ _).symm.trans H; with_reducible exact H2_) | with_reducible exact H | (rw [hy192]; exact H) | exact H
    have Ny192 := Aside0.mk hy192
    clear hy192
    replace H := Option.bind_eq_some_iff.mp H
    obtain ⟨t195, A30, H⟩ := H
    replace H : (some t195) = some r := H
    have A3 := Aside0.mk A30
    clear A30
    obtain rfl := Option.some.inj H
    go_enter Tryd.func40, Tryd.ntmps40
    go_wp2_with (first | ((with_reducible refine gate_dst (N := 6) rfl ?_); refine Kd.R_lit Kd.string _ 9 ?hg (N := 6) ?hd (xs := ([(⟨#[65]⟩ : ByteArray)] : List ByteArray)) (inner := [.string (⟨#[65]⟩ : ByteArray)]) (ok := fun _ => True) (okp := fun _ => True) ?hr ?hp (fun _ hk => hk) trivial (Below.refl _ _) (Nat.le_refl _) (by simp) ?_; (case hd => rfl); (case hg => rfl); (case hr => first | (go_simp; done) | (go_simp; rfl)); (case hp => exact (Reps.one (show Kd.M Kd.string _ _ _ (⟨#[65]⟩ : ByteArray) [.string (⟨#[65]⟩ : ByteArray)] from rfl) (Reps.none _ _))); intro v193 w4 ho5 hb hg_ hnew_; clear hg_ hnew_; (first | rw [← Ny192.out] at ho5 | (simp only [Int.reduceToNat] at ho5; rw [← Ny192.out] at ho5)); have n0_ := Aside0.mk (Kd.R_lower ho5 (below_size (by repeat (first | (with_reducible first | exact HB.out | apply below_alloc | apply Go.Proofs.YtjjkagjdbjpikaaDoor.Ext.below_bytes | apply pw_below_drewN | apply below_drew1) | exact HB.out)))); have n1_ := Aside0.mk (below_step (by repeat (first | (with_reducible first | exact HB.out | apply below_alloc | apply Go.Proofs.YtjjkagjdbjpikaaDoor.Ext.below_bytes | apply pw_below_drewN | apply below_drew1) | exact HB.out)) hb); clear HB; have HO194 := n0_; have HB := n1_; clear n0_ n1_; clear hb ho5; obtain ⟨Ao6, co6, eo6⟩ := Kd.R_slice HO194.out; subst eo6) | ((with_reducible refine gate_callee (f := 39) rfl ?_); refine goesL_ (some 7) rfl rfl Tryd.func39 (by kernel_rfl) rfl #[.slice Ao6 y192.length co6] rfl (by (try simp only [List.map_toArray, List.map_cons, List.map_nil]); first | done | rfl | (simp only [List.length_drop, List.length_take]; rfl) | (simp [Act.eval, *]; done)) ?_; (with_reducible refine (xansi_FinalTerm.calls k _ _ y192 t195 _ ?side1 ?side2 A3.out).mono ?_); (case side1 => repeat (first | exact (Kd.R_reads' HO194.out).2.2 | (with_reducible refine Kd.C_alloc ?_ _) | (with_reducible refine Kd.C_drewN ?_ _) | (with_reducible refine Kd.C_drew ?_))); (case side2 => exact (Kd.R_reads' HO194.out).2.1); rintro e w' ⟨rfl, ⟨nd, rfl⟩⟩; refine ⟨_, rfl, ?_⟩))
    go_ret
    exact ⟨by first | rfl | (simp [errW_none, errW_some] <;> rfl) | (simp [*, errW_none, errW_some] <;> rfl), by repeat (first | (with_reducible first | exact HB.out | apply below_alloc | apply Go.Proofs.YtjjkagjdbjpikaaDoor.Ext.below_bytes | apply pw_below_drewN | apply below_drew1) | exact HB.out)⟩
  · rw [if_neg c2] at H
    have c2b0 : ((l0.length : Int) == 0) = false := beq_eq_false_iff_ne.mpr c2
    have c2b1 : ((l0.length : Int) != 0) = true := bne_iff_ne.mpr c2
    have c2b2 : ¬ (l0 = []) := fun h_ => c2 (by rw [h_]; rfl)
    obtain ⟨y196, hy196⟩ : ∃ y_ : List ByteArray, y_ = (([(⟨#[65]⟩ : ByteArray)] : List ByteArray)) := ⟨_, rfl⟩
    replace H : (if y196.length + l0.length < 8796093022208 then ((xansi_FinalTerm.f k (y196 ++ l0)).bind fun t202 => (some t202)) else (none)) = some r := by first | (rw [hy196]; with_reducible exact H) | (have H2_ := (Option.bind_some _ _).symm.trans H; rw [hy196]; with_reducible exact H2_) | (have H2_ := (Option.bind_some _ _).symm.trans H; with_reducible exact H2_) | with_reducible exact H | (rw [hy196]; exact H) | exact H
    have Ny196 := Aside0.mk hy196
    clear hy196
    by_cases c7 : y196.length + l0.length < 8796093022208
    · rw [if_pos c7] at H
      have LMc7 := Aside0.mk c7
      clear c7
      obtain ⟨y199, hy199⟩ : ∃ y_ : List ByteArray, y_ = (y196 ++ l0) := ⟨_, rfl⟩
      replace H : ((xansi_FinalTerm.f k y199).bind fun t202 => (some t202)) = some r := by first | (rw [hy199]; with_reducible exact H) | (have H2_ := (Option.bind_some _ _).symm.trans H; rw [hy199]; with_reducible exact H2_) | (have H2_ := (Option.bind_some _ _).symm.trans H; with_reducible exact H2_) | with_reducible exact H | (rw [hy199]; exact H) | exact H
      have Ny199 := Aside0.mk hy199
      clear hy199
      replace H := Option.bind_eq_some_iff.mp H
      obtain ⟨t202, A80, H⟩ := H
      replace H : (some t202) = some r := H
      have A8 := Aside0.mk A80
      clear A80
      obtain rfl := Option.some.inj H
      go_enter Tryd.func40, Tryd.ntmps40
      go_wp2_with (first | ((with_reducible refine gate_dst (N := 8) rfl ?_); refine Kd.R_lit Kd.string _ 9 ?hg (N := 8) ?hd (xs := ([(⟨#[65]⟩ : ByteArray)] : List ByteArray)) (inner := [.string (⟨#[65]⟩ : ByteArray)]) (ok := fun _ => True) (okp := fun _ => True) ?hr ?hp (fun _ hk => hk) trivial (Below.refl _ _) (Nat.le_refl _) (by simp) ?_; (case hd => rfl); (case hg => rfl); (case hr => first | (go_simp; done) | (go_simp; rfl)); (case hp => exact (Reps.one (show Kd.M Kd.string _ _ _ (⟨#[65]⟩ : ByteArray) [.string (⟨#[65]⟩ : ByteArray)] from rfl) (Reps.none _ _))); intro v197 w9 ho10 hb hg_ hnew_; clear hg_ hnew_; (first | rw [← Ny196.out] at ho10 | (simp only [Int.reduceToNat] at ho10; rw [← Ny196.out] at ho10)); have n0_ := Aside0.mk (Kd.R_lower ho10 (below_size (by repeat (first | (with_reducible first | exact HB.out | apply below_alloc | apply Go.Proofs.YtjjkagjdbjpikaaDoor.Ext.below_bytes | apply pw_below_drewN | apply below_drew1) | exact HB.out)))); have n1_ := Aside0.mk (below_step (by repeat (first | (with_reducible first | exact HB.out | apply below_alloc | apply Go.Proofs.YtjjkagjdbjpikaaDoor.Ext.below_bytes | apply pw_below_drewN | apply below_drew1) | exact HB.out)) hb); clear HB; have HO198 := n0_; have HB := n1_; clear n0_ n1_; clear hb ho10) | ((with_reducible refine gate_builtin (b := .append) (xs := #[.tmp 8, .tmp 9]) rfl ?_); at_builtin; refine Kd.R_append_rows Kd.string (w0 := w) w.heap.size rfl (.tmp 8) (.tmp 9) 22 9 (.string ⟨#[]⟩) 16 rfl Tryd.underlying22 info9 rfl (by decide) (by omega) v197 y196 l0 _ _ _ (fun _ => True) (fun _ => False) rfl rfl ?aO ?aR (fun _ _ h => h) (fun _ h => h.elim) ?aF ?aB ?aS ?aL ?_; (case aR => repeat (first | exact (Kd.C_below HR0.out HB.out) | (with_reducible refine Kd.C_alloc ?_ _) | (with_reducible refine Kd.C_drewN ?_ _) | (with_reducible refine Kd.C_drew ?_))); (case aB => exact (by repeat (first | (with_reducible first | exact HB.out | apply below_alloc | apply Go.Proofs.YtjjkagjdbjpikaaDoor.Ext.below_bytes | apply pw_below_drewN | apply below_drew1) | exact HB.out))); (case aF => exact (fun _ _ => trivial)); (case aO => exact (by (with_reducible repeat (first | apply Kd.R_alloc | apply Go.Proofs.YtjjkagjdbjpikaaDoor.Ext.R_bytes | apply Kd.R_drewN | apply Kd.R_drew)); exact HO198.out)); (case aS => exact (below_size (by repeat (first | (with_reducible first | exact HB.out | apply below_alloc | apply Go.Proofs.YtjjkagjdbjpikaaDoor.Ext.below_bytes | apply pw_below_drewN | apply below_drew1) | exact HB.out)))); (case aL => have := LMc7.out; omega); intro v200 w11 ho hb hg hat; rw [← Ny199.out] at ho; have n0_ := Aside0.mk (hb); have n1_ := Aside0.mk (ho); clear HB; clear HO198; have HB := n0_; have HO201 := n1_; clear n0_ n1_; clear ho hb hg hat; obtain ⟨Ao12, co12, eo12⟩ := Kd.R_slice HO201.out; subst eo12) | ((with_reducible refine gate_callee (f := 39) rfl ?_); refine goesL_ (some 11) rfl rfl Tryd.func39 (by kernel_rfl) rfl #[.slice Ao12 y199.length co12] rfl (by (try simp only [List.map_toArray, List.map_cons, List.map_nil]); first | done | rfl | (simp only [List.length_drop, List.length_take]; rfl) | (simp [Act.eval, *]; done)) ?_; (with_reducible refine (xansi_FinalTerm.calls k _ _ y199 t202 _ ?side1 ?side2 A8.out).mono ?_); (case side1 => repeat (first | exact (Kd.R_reads' HO201.out).2.2 | (with_reducible refine Kd.C_alloc ?_ _) | (with_reducible refine Kd.C_drewN ?_ _) | (with_reducible refine Kd.C_drew ?_))); (case side2 => exact (Kd.R_reads' HO201.out).2.1); rintro e w' ⟨rfl, ⟨nd, rfl⟩⟩; refine ⟨_, rfl, ?_⟩))
      go_ret
      exact ⟨by first | rfl | (simp [errW_none, errW_some] <;> rfl) | (simp [*, errW_none, errW_some] <;> rfl), by repeat (first | (with_reducible first | exact HB.out | apply below_alloc | apply Go.Proofs.YtjjkagjdbjpikaaDoor.Ext.below_bytes | apply pw_below_drewN | apply below_drew1) | exact HB.out)⟩
    · rw [if_neg c7] at H
      exact absurd H (by simp)

end Go.Proofs.YtjjkagjdbjpikaaDoor.PX
