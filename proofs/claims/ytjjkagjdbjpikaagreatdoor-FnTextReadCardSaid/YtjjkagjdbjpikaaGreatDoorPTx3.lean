-- Written by wip/pp.py, a program of this session, out of the translation. Not trusted: Lean checks it.
import Derived.Test.YtjjkagjdbjpikaaGreatDoorPTx0
import Derived.Test.YtjjkagjdbjpikaaGreatDoorPTx2
namespace Go.Proofs.YtjjkagjdbjpikaaGreatDoor.PT
open Go.RowKit Go.Proofs.YtjjkagjdbjpikaaGreatDoor.Or Go.Proofs.YtjjkagjdbjpikaaGreatDoorW.PrintWords Go.Proofs.YtjjkagjdbjpikaaGreatDoorW.PrintLast Go.Proofs.YtjjkagjdbjpikaaGreatDoorW.PrintMore
attribute [local go_sem] max2_int min2_int max_two min_two max_three min_three max_four min_four   -- for this text's walks alone
attribute [local go_sem] Go.Proofs.YtjjkagjdbjpikaaGreatDoor.Ext.wrap64_mod256 Go.Proofs.YtjjkagjdbjpikaaGreatDoor.Ext.wrap64_mod32 Go.Proofs.YtjjkagjdbjpikaaGreatDoor.Ext.i64_mod256 Go.Proofs.YtjjkagjdbjpikaaGreatDoor.Ext.i64_mod32 Go.Proofs.YtjjkagjdbjpikaaGreatDoor.Ext.i64_u8 Go.Proofs.YtjjkagjdbjpikaaGreatDoor.Ext.w64_u8 Go.Proofs.YtjjkagjdbjpikaaGreatDoor.Ext.i64_u32 Go.Proofs.YtjjkagjdbjpikaaGreatDoor.Ext.w64_u32 
set_option linter.unusedVariables false
set_option linter.unusedSimpArgs false

/-! ### xansi_DECSIN: function 23 -/
def xansi_DECSIN.f (a0 : ByteArray) : Option (ByteArray) := if 2 + a0.size ≤ 9223372036854775807 then ((xansi_SetWindowTitle.f ((⟨#[76, 59]⟩ : ByteArray) ++ a0)).bind fun t151 => (some t151)) else (none)
set_option maxHeartbeats 8000000 in
set_option maxRecDepth 100000 in
theorem xansi_DECSIN.calls (a0 : ByteArray) (r : ByteArray) (w : World) (h : xansi_DECSIN.f a0 = some r) :
    Calls Tryz.prog 23 #[.string a0] w fun e w' => e = .returned (.string r) ∧ Drawn0 w w' := by
  have H : (if 2 + a0.size ≤ 9223372036854775807 then ((xansi_SetWindowTitle.f ((⟨#[76, 59]⟩ : ByteArray) ++ a0)).bind fun t151 => (some t151)) else (none)) = some r := h
  clear h
  by_cases c2 : 2 + a0.size ≤ 9223372036854775807
  · rw [if_pos c2] at H
    have c2b0 := eq_true c2
    have c2b1 : decide (2 + a0.size ≤ 9223372036854775807) = true := decide_eq_true c2
    try have c2b2 : (9223372036854775807 < 2 + a0.size) = False := eq_false (Nat.not_lt.2 c2)
    replace H := Option.bind_eq_some_iff.mp H
    obtain ⟨t151, A30, H⟩ := H
    replace H : (some t151) = some r := H
    have A3 := Aside0.mk A30
    clear A30
    obtain rfl := Option.some.inj H
    go_enter Tryz.func23, Tryz.ntmps23
    go_wp2_with (first | ((with_reducible refine gate_callee (f := 15) rfl ?_); refine goesL_ (some 5) rfl rfl Tryz.func15 (by kernel_rfl) rfl #[.string ((⟨#[76, 59]⟩ : ByteArray) ++ a0)] rfl (by (try simp only [List.map_toArray, List.map_cons, List.map_nil]); first | done | rfl | (simp only [List.length_drop, List.length_take]; rfl) | (simp [Act.eval, *]; done) | (simp [Act.eval, *]; unfold wrap64; omega)) ?_; (with_reducible refine (xansi_SetWindowTitle.calls ((⟨#[76, 59]⟩ : ByteArray) ++ a0) t151 _ A3.out).mono ?_); rintro e w' ⟨rfl, ⟨nd, rfl⟩⟩; refine ⟨_, rfl, ?_⟩))
    go_ret
    exact ⟨by first | rfl | (simp; done) | (simp [*]; done), by repeat (first | exact Drawn0.refl _ | apply Drawn0.step)⟩
  · rw [if_neg c2] at H
    exact absurd H (by simp)

/-! ### xansi_DECSWT: function 24 -/
def xansi_DECSWT.f (a0 : ByteArray) : Option (ByteArray) := if 2 + a0.size ≤ 9223372036854775807 then ((xansi_SetWindowTitle.f ((⟨#[49, 59]⟩ : ByteArray) ++ a0)).bind fun t152 => (some t152)) else (none)
set_option maxHeartbeats 8000000 in
set_option maxRecDepth 100000 in
theorem xansi_DECSWT.calls (a0 : ByteArray) (r : ByteArray) (w : World) (h : xansi_DECSWT.f a0 = some r) :
    Calls Tryz.prog 24 #[.string a0] w fun e w' => e = .returned (.string r) ∧ Drawn0 w w' := by
  have H : (if 2 + a0.size ≤ 9223372036854775807 then ((xansi_SetWindowTitle.f ((⟨#[49, 59]⟩ : ByteArray) ++ a0)).bind fun t152 => (some t152)) else (none)) = some r := h
  clear h
  by_cases c2 : 2 + a0.size ≤ 9223372036854775807
  · rw [if_pos c2] at H
    have c2b0 := eq_true c2
    have c2b1 : decide (2 + a0.size ≤ 9223372036854775807) = true := decide_eq_true c2
    try have c2b2 : (9223372036854775807 < 2 + a0.size) = False := eq_false (Nat.not_lt.2 c2)
    replace H := Option.bind_eq_some_iff.mp H
    obtain ⟨t152, A30, H⟩ := H
    replace H : (some t152) = some r := H
    have A3 := Aside0.mk A30
    clear A30
    obtain rfl := Option.some.inj H
    go_enter Tryz.func24, Tryz.ntmps24
    go_wp2_with (first | ((with_reducible refine gate_callee (f := 15) rfl ?_); refine goesL_ (some 5) rfl rfl Tryz.func15 (by kernel_rfl) rfl #[.string ((⟨#[49, 59]⟩ : ByteArray) ++ a0)] rfl (by (try simp only [List.map_toArray, List.map_cons, List.map_nil]); first | done | rfl | (simp only [List.length_drop, List.length_take]; rfl) | (simp [Act.eval, *]; done) | (simp [Act.eval, *]; unfold wrap64; omega)) ?_; (with_reducible refine (xansi_SetWindowTitle.calls ((⟨#[49, 59]⟩ : ByteArray) ++ a0) t152 _ A3.out).mono ?_); rintro e w' ⟨rfl, ⟨nd, rfl⟩⟩; refine ⟨_, rfl, ?_⟩))
    go_ret
    exact ⟨by first | rfl | (simp; done) | (simp [*]; done), by repeat (first | exact Drawn0.refl _ | apply Drawn0.step)⟩
  · rw [if_neg c2] at H
    exact absurd H (by simp)

/-! ### xansi_TertiaryDeviceAttributes: function 25 -/
def xansi_TertiaryDeviceAttributes.f (a0 : ByteArray) : Option (ByteArray) := none
set_option maxHeartbeats 8000000 in
set_option maxRecDepth 100000 in
theorem xansi_TertiaryDeviceAttributes.calls (a0 : ByteArray) (r : ByteArray) (w : World) (h : xansi_TertiaryDeviceAttributes.f a0 = some r) :
    Calls Tryz.prog 25 #[.string a0] w fun e w' => e = .returned (.string r) ∧ Drawn0 w w' := by
  have H : (none) = some r := h
  clear h
  exact absurd H (by simp)

/-! ### xansi_TmuxPassthrough: function 26 -/
def xansi_TmuxPassthrough.f (a0 : ByteArray) : Option (ByteArray) := none
set_option maxHeartbeats 8000000 in
set_option maxRecDepth 100000 in
theorem xansi_TmuxPassthrough.calls (a0 : ByteArray) (r : ByteArray) (w : World) (h : xansi_TmuxPassthrough.f a0 = some r) :
    Calls Tryz.prog 26 #[.string a0] w fun e w' => e = .returned (.string r) ∧ Below w.heap.size w w' := by
  have hu49 := Tryz.underlying49
  have HB := Aside0.mk (Below.refl w.heap.size w)
  have H : (none) = some r := h
  clear h
  exact absurd H (by simp)

/-! ### xansi_ClearProgramStatusID: function 27 -/
def xansi_ClearProgramStatusID.f (a0 : ByteArray) : Option (ByteArray) := none
set_option maxHeartbeats 8000000 in
set_option maxRecDepth 100000 in
theorem xansi_ClearProgramStatusID.calls (a0 : ByteArray) (r : ByteArray) (w : World) (h : xansi_ClearProgramStatusID.f a0 = some r) :
    Calls Tryz.prog 27 #[.string a0] w fun e w' => e = .returned (.string r) ∧ Drawn0 w w' := by
  have hu60 := Tryz.underlying60
  have H : (none) = some r := h
  clear h
  exact absurd H (by simp)

/-! ### impl_MakeText: function 8 -/
def impl_MakeText.f (a0 : Int) (a1 : ByteArray) : Option (ByteArray) := if a0 = 0 then ((xansi_SetWindowTitle.f a1).bind fun t153 => (some t153)) else (if a0 = 1 then ((xansi_SetIconName.f a1).bind fun t154 => (some t154)) else (if a0 = 2 then ((xansi_SetIconNameWindowTitle.f a1).bind fun t155 => (some t155)) else (if a0 = 3 then ((xansi_SetForegroundColor.f a1).bind fun t156 => (some t156)) else (if a0 = 4 then ((xansi_SetBackgroundColor.f a1).bind fun t157 => (some t157)) else (if a0 = 5 then ((xansi_SetCursorColor.f a1).bind fun t158 => (some t158)) else (if a0 = 6 then ((xansi_SetPointerShape.f a1).bind fun t159 => (some t159)) else (if a0 = 7 then ((xansi_Notify.f a1).bind fun t160 => (some t160)) else (if a0 = 8 then ((xansi_DECSIN.f a1).bind fun t161 => (some t161)) else (if a0 = 9 then ((xansi_DECSWT.f a1).bind fun t162 => (some t162)) else (if a0 = 10 then ((xansi_TertiaryDeviceAttributes.f a1).bind fun t163 => (some t163)) else (if a0 = 11 then ((xansi_TmuxPassthrough.f a1).bind fun t164 => (some t164)) else (if a0 = 12 then ((xansi_ClearProgramStatusID.f a1).bind fun t165 => (some t165)) else (some (⟨#[]⟩ : ByteArray))))))))))))))
set_option maxHeartbeats 8000000 in
set_option maxRecDepth 100000 in
theorem impl_MakeText.calls (a0 : Int) (a1 : ByteArray) (r : ByteArray) (w : World) (h : impl_MakeText.f a0 a1 = some r) :
    Calls Tryz.prog 8 #[.int .i64 a0, .string a1] w fun e w' => e = .returned (.string r) ∧ Below w.heap.size w w' := by
  have HB := Aside0.mk (Below.refl w.heap.size w)
  have H : (if a0 = 0 then ((xansi_SetWindowTitle.f a1).bind fun t153 => (some t153)) else (if a0 = 1 then ((xansi_SetIconName.f a1).bind fun t154 => (some t154)) else (if a0 = 2 then ((xansi_SetIconNameWindowTitle.f a1).bind fun t155 => (some t155)) else (if a0 = 3 then ((xansi_SetForegroundColor.f a1).bind fun t156 => (some t156)) else (if a0 = 4 then ((xansi_SetBackgroundColor.f a1).bind fun t157 => (some t157)) else (if a0 = 5 then ((xansi_SetCursorColor.f a1).bind fun t158 => (some t158)) else (if a0 = 6 then ((xansi_SetPointerShape.f a1).bind fun t159 => (some t159)) else (if a0 = 7 then ((xansi_Notify.f a1).bind fun t160 => (some t160)) else (if a0 = 8 then ((xansi_DECSIN.f a1).bind fun t161 => (some t161)) else (if a0 = 9 then ((xansi_DECSWT.f a1).bind fun t162 => (some t162)) else (if a0 = 10 then ((xansi_TertiaryDeviceAttributes.f a1).bind fun t163 => (some t163)) else (if a0 = 11 then ((xansi_TmuxPassthrough.f a1).bind fun t164 => (some t164)) else (if a0 = 12 then ((xansi_ClearProgramStatusID.f a1).bind fun t165 => (some t165)) else (some (⟨#[]⟩ : ByteArray))))))))))))))) = some r := h
  clear h
  by_cases c3 : a0 = 0
  · rw [if_pos c3] at H
    have c3b0 : (a0 == 0) = true := beq_iff_eq.mpr c3
    have c3b1 : (a0 != 0) = false := bne_eq_false_iff_eq.mpr c3
    clear c3
    replace H := Option.bind_eq_some_iff.mp H
    obtain ⟨t153, A40, H⟩ := H
    replace H : (some t153) = some r := H
    have A4 := Aside0.mk A40
    clear A40
    obtain rfl := Option.some.inj H
    go_enter Tryz.func8, Tryz.ntmps8
    go_wp2_with (first | ((with_reducible refine gate_callee (f := 15) rfl ?_); refine goesL_ (some 9) rfl rfl Tryz.func15 (by kernel_rfl) rfl #[.string a1] rfl (by (try simp only [List.map_toArray, List.map_cons, List.map_nil]); first | done | rfl | (simp only [List.length_drop, List.length_take]; rfl) | (simp [Act.eval, *]; done) | (simp [Act.eval, *]; unfold wrap64; omega)) ?_; (with_reducible refine (xansi_SetWindowTitle.calls a1 t153 _ A4.out).mono ?_); rintro e w' ⟨rfl, ⟨nd, rfl⟩⟩; refine ⟨_, rfl, ?_⟩))
    go_ret
    exact ⟨by first | rfl | (simp [errW_none, errW_some] <;> rfl) | (simp [*, errW_none, errW_some] <;> rfl), by repeat (first | (with_reducible first | exact HB.out | apply below_alloc | apply Go.Proofs.YtjjkagjdbjpikaaGreatDoor.Ext.below_bytes | apply pw_below_drewN | apply below_drew1) | exact HB.out)⟩
  · rw [if_neg c3] at H
    have c3b0 : (a0 == 0) = false := beq_eq_false_iff_ne.mpr c3
    have c3b1 : (a0 != 0) = true := bne_iff_ne.mpr c3
    by_cases c5 : a0 = 1
    · rw [if_pos c5] at H
      have c5b0 : (a0 == 1) = true := beq_iff_eq.mpr c5
      have c5b1 : (a0 != 1) = false := bne_eq_false_iff_eq.mpr c5
      clear c5
      replace H := Option.bind_eq_some_iff.mp H
      obtain ⟨t154, A60, H⟩ := H
      replace H : (some t154) = some r := H
      have A6 := Aside0.mk A60
      clear A60
      obtain rfl := Option.some.inj H
      go_enter Tryz.func8, Tryz.ntmps8
      go_wp2_with (first | ((with_reducible refine gate_callee (f := 16) rfl ?_); refine goesL_ (some 13) rfl rfl Tryz.func16 (by kernel_rfl) rfl #[.string a1] rfl (by (try simp only [List.map_toArray, List.map_cons, List.map_nil]); first | done | rfl | (simp only [List.length_drop, List.length_take]; rfl) | (simp [Act.eval, *]; done) | (simp [Act.eval, *]; unfold wrap64; omega)) ?_; (with_reducible refine (xansi_SetIconName.calls a1 t154 _ A6.out).mono ?_); rintro e w' ⟨rfl, ⟨nd, rfl⟩⟩; refine ⟨_, rfl, ?_⟩))
      go_ret
      exact ⟨by first | rfl | (simp [errW_none, errW_some] <;> rfl) | (simp [*, errW_none, errW_some] <;> rfl), by repeat (first | (with_reducible first | exact HB.out | apply below_alloc | apply Go.Proofs.YtjjkagjdbjpikaaGreatDoor.Ext.below_bytes | apply pw_below_drewN | apply below_drew1) | exact HB.out)⟩
    · rw [if_neg c5] at H
      have c5b0 : (a0 == 1) = false := beq_eq_false_iff_ne.mpr c5
      have c5b1 : (a0 != 1) = true := bne_iff_ne.mpr c5
      by_cases c7 : a0 = 2
      · rw [if_pos c7] at H
        have c7b0 : (a0 == 2) = true := beq_iff_eq.mpr c7
        have c7b1 : (a0 != 2) = false := bne_eq_false_iff_eq.mpr c7
        clear c7
        replace H := Option.bind_eq_some_iff.mp H
        obtain ⟨t155, A80, H⟩ := H
        replace H : (some t155) = some r := H
        have A8 := Aside0.mk A80
        clear A80
        obtain rfl := Option.some.inj H
        go_enter Tryz.func8, Tryz.ntmps8
        go_wp2_with (first | ((with_reducible refine gate_callee (f := 17) rfl ?_); refine goesL_ (some 17) rfl rfl Tryz.func17 (by kernel_rfl) rfl #[.string a1] rfl (by (try simp only [List.map_toArray, List.map_cons, List.map_nil]); first | done | rfl | (simp only [List.length_drop, List.length_take]; rfl) | (simp [Act.eval, *]; done) | (simp [Act.eval, *]; unfold wrap64; omega)) ?_; (with_reducible refine (xansi_SetIconNameWindowTitle.calls a1 t155 _ A8.out).mono ?_); rintro e w' ⟨rfl, ⟨nd, rfl⟩⟩; refine ⟨_, rfl, ?_⟩))
        go_ret
        exact ⟨by first | rfl | (simp [errW_none, errW_some] <;> rfl) | (simp [*, errW_none, errW_some] <;> rfl), by repeat (first | (with_reducible first | exact HB.out | apply below_alloc | apply Go.Proofs.YtjjkagjdbjpikaaGreatDoor.Ext.below_bytes | apply pw_below_drewN | apply below_drew1) | exact HB.out)⟩
      · rw [if_neg c7] at H
        have c7b0 : (a0 == 2) = false := beq_eq_false_iff_ne.mpr c7
        have c7b1 : (a0 != 2) = true := bne_iff_ne.mpr c7
        by_cases c9 : a0 = 3
        · rw [if_pos c9] at H
          have c9b0 : (a0 == 3) = true := beq_iff_eq.mpr c9
          have c9b1 : (a0 != 3) = false := bne_eq_false_iff_eq.mpr c9
          clear c9
          replace H := Option.bind_eq_some_iff.mp H
          obtain ⟨t156, A100, H⟩ := H
          replace H : (some t156) = some r := H
          have A10 := Aside0.mk A100
          clear A100
          obtain rfl := Option.some.inj H
          go_enter Tryz.func8, Tryz.ntmps8
          go_wp2_with (first | ((with_reducible refine gate_callee (f := 18) rfl ?_); refine goesL_ (some 21) rfl rfl Tryz.func18 (by kernel_rfl) rfl #[.string a1] rfl (by (try simp only [List.map_toArray, List.map_cons, List.map_nil]); first | done | rfl | (simp only [List.length_drop, List.length_take]; rfl) | (simp [Act.eval, *]; done) | (simp [Act.eval, *]; unfold wrap64; omega)) ?_; (with_reducible refine (xansi_SetForegroundColor.calls a1 t156 _ A10.out).mono ?_); rintro e w' ⟨rfl, ⟨nd, rfl⟩⟩; refine ⟨_, rfl, ?_⟩))
          go_ret
          exact ⟨by first | rfl | (simp [errW_none, errW_some] <;> rfl) | (simp [*, errW_none, errW_some] <;> rfl), by repeat (first | (with_reducible first | exact HB.out | apply below_alloc | apply Go.Proofs.YtjjkagjdbjpikaaGreatDoor.Ext.below_bytes | apply pw_below_drewN | apply below_drew1) | exact HB.out)⟩
        · rw [if_neg c9] at H
          have c9b0 : (a0 == 3) = false := beq_eq_false_iff_ne.mpr c9
          have c9b1 : (a0 != 3) = true := bne_iff_ne.mpr c9
          by_cases c11 : a0 = 4
          · rw [if_pos c11] at H
            have c11b0 : (a0 == 4) = true := beq_iff_eq.mpr c11
            have c11b1 : (a0 != 4) = false := bne_eq_false_iff_eq.mpr c11
            clear c11
            replace H := Option.bind_eq_some_iff.mp H
            obtain ⟨t157, A120, H⟩ := H
            replace H : (some t157) = some r := H
            have A12 := Aside0.mk A120
            clear A120
            obtain rfl := Option.some.inj H
            go_enter Tryz.func8, Tryz.ntmps8
            go_wp2_with (first | ((with_reducible refine gate_callee (f := 19) rfl ?_); refine goesL_ (some 25) rfl rfl Tryz.func19 (by kernel_rfl) rfl #[.string a1] rfl (by (try simp only [List.map_toArray, List.map_cons, List.map_nil]); first | done | rfl | (simp only [List.length_drop, List.length_take]; rfl) | (simp [Act.eval, *]; done) | (simp [Act.eval, *]; unfold wrap64; omega)) ?_; (with_reducible refine (xansi_SetBackgroundColor.calls a1 t157 _ A12.out).mono ?_); rintro e w' ⟨rfl, ⟨nd, rfl⟩⟩; refine ⟨_, rfl, ?_⟩))
            go_ret
            exact ⟨by first | rfl | (simp [errW_none, errW_some] <;> rfl) | (simp [*, errW_none, errW_some] <;> rfl), by repeat (first | (with_reducible first | exact HB.out | apply below_alloc | apply Go.Proofs.YtjjkagjdbjpikaaGreatDoor.Ext.below_bytes | apply pw_below_drewN | apply below_drew1) | exact HB.out)⟩
          · rw [if_neg c11] at H
            have c11b0 : (a0 == 4) = false := beq_eq_false_iff_ne.mpr c11
            have c11b1 : (a0 != 4) = true := bne_iff_ne.mpr c11
            by_cases c13 : a0 = 5
            · rw [if_pos c13] at H
              have c13b0 : (a0 == 5) = true := beq_iff_eq.mpr c13
              have c13b1 : (a0 != 5) = false := bne_eq_false_iff_eq.mpr c13
              clear c13
              replace H := Option.bind_eq_some_iff.mp H
              obtain ⟨t158, A140, H⟩ := H
              replace H : (some t158) = some r := H
              have A14 := Aside0.mk A140
              clear A140
              obtain rfl := Option.some.inj H
              go_enter Tryz.func8, Tryz.ntmps8
              go_wp2_with (first | ((with_reducible refine gate_callee (f := 20) rfl ?_); refine goesL_ (some 29) rfl rfl Tryz.func20 (by kernel_rfl) rfl #[.string a1] rfl (by (try simp only [List.map_toArray, List.map_cons, List.map_nil]); first | done | rfl | (simp only [List.length_drop, List.length_take]; rfl) | (simp [Act.eval, *]; done) | (simp [Act.eval, *]; unfold wrap64; omega)) ?_; (with_reducible refine (xansi_SetCursorColor.calls a1 t158 _ A14.out).mono ?_); rintro e w' ⟨rfl, ⟨nd, rfl⟩⟩; refine ⟨_, rfl, ?_⟩))
              go_ret
              exact ⟨by first | rfl | (simp [errW_none, errW_some] <;> rfl) | (simp [*, errW_none, errW_some] <;> rfl), by repeat (first | (with_reducible first | exact HB.out | apply below_alloc | apply Go.Proofs.YtjjkagjdbjpikaaGreatDoor.Ext.below_bytes | apply pw_below_drewN | apply below_drew1) | exact HB.out)⟩
            · rw [if_neg c13] at H
              have c13b0 : (a0 == 5) = false := beq_eq_false_iff_ne.mpr c13
              have c13b1 : (a0 != 5) = true := bne_iff_ne.mpr c13
              by_cases c15 : a0 = 6
              · rw [if_pos c15] at H
                have c15b0 : (a0 == 6) = true := beq_iff_eq.mpr c15
                have c15b1 : (a0 != 6) = false := bne_eq_false_iff_eq.mpr c15
                clear c15
                replace H := Option.bind_eq_some_iff.mp H
                obtain ⟨t159, A160, H⟩ := H
                replace H : (some t159) = some r := H
                have A16 := Aside0.mk A160
                clear A160
                obtain rfl := Option.some.inj H
                go_enter Tryz.func8, Tryz.ntmps8
                go_wp2_with (first | ((with_reducible refine gate_callee (f := 21) rfl ?_); refine goesL_ (some 33) rfl rfl Tryz.func21 (by kernel_rfl) rfl #[.string a1] rfl (by (try simp only [List.map_toArray, List.map_cons, List.map_nil]); first | done | rfl | (simp only [List.length_drop, List.length_take]; rfl) | (simp [Act.eval, *]; done) | (simp [Act.eval, *]; unfold wrap64; omega)) ?_; (with_reducible refine (xansi_SetPointerShape.calls a1 t159 _ A16.out).mono ?_); rintro e w' ⟨rfl, ⟨nd, rfl⟩⟩; refine ⟨_, rfl, ?_⟩))
                go_ret
                exact ⟨by first | rfl | (simp [errW_none, errW_some] <;> rfl) | (simp [*, errW_none, errW_some] <;> rfl), by repeat (first | (with_reducible first | exact HB.out | apply below_alloc | apply Go.Proofs.YtjjkagjdbjpikaaGreatDoor.Ext.below_bytes | apply pw_below_drewN | apply below_drew1) | exact HB.out)⟩
              · rw [if_neg c15] at H
                have c15b0 : (a0 == 6) = false := beq_eq_false_iff_ne.mpr c15
                have c15b1 : (a0 != 6) = true := bne_iff_ne.mpr c15
                by_cases c17 : a0 = 7
                · rw [if_pos c17] at H
                  have c17b0 : (a0 == 7) = true := beq_iff_eq.mpr c17
                  have c17b1 : (a0 != 7) = false := bne_eq_false_iff_eq.mpr c17
                  clear c17
                  replace H := Option.bind_eq_some_iff.mp H
                  obtain ⟨t160, A180, H⟩ := H
                  replace H : (some t160) = some r := H
                  have A18 := Aside0.mk A180
                  clear A180
                  obtain rfl := Option.some.inj H
                  go_enter Tryz.func8, Tryz.ntmps8
                  go_wp2_with (first | ((with_reducible refine gate_callee (f := 22) rfl ?_); refine goesL_ (some 37) rfl rfl Tryz.func22 (by kernel_rfl) rfl #[.string a1] rfl (by (try simp only [List.map_toArray, List.map_cons, List.map_nil]); first | done | rfl | (simp only [List.length_drop, List.length_take]; rfl) | (simp [Act.eval, *]; done) | (simp [Act.eval, *]; unfold wrap64; omega)) ?_; (with_reducible refine (xansi_Notify.calls a1 t160 _ A18.out).mono ?_); rintro e w' ⟨rfl, ⟨nd, rfl⟩⟩; refine ⟨_, rfl, ?_⟩))
                  go_ret
                  exact ⟨by first | rfl | (simp [errW_none, errW_some] <;> rfl) | (simp [*, errW_none, errW_some] <;> rfl), by repeat (first | (with_reducible first | exact HB.out | apply below_alloc | apply Go.Proofs.YtjjkagjdbjpikaaGreatDoor.Ext.below_bytes | apply pw_below_drewN | apply below_drew1) | exact HB.out)⟩
                · rw [if_neg c17] at H
                  have c17b0 : (a0 == 7) = false := beq_eq_false_iff_ne.mpr c17
                  have c17b1 : (a0 != 7) = true := bne_iff_ne.mpr c17
                  by_cases c19 : a0 = 8
                  · rw [if_pos c19] at H
                    have c19b0 : (a0 == 8) = true := beq_iff_eq.mpr c19
                    have c19b1 : (a0 != 8) = false := bne_eq_false_iff_eq.mpr c19
                    clear c19
                    replace H := Option.bind_eq_some_iff.mp H
                    obtain ⟨t161, A200, H⟩ := H
                    replace H : (some t161) = some r := H
                    have A20 := Aside0.mk A200
                    clear A200
                    obtain rfl := Option.some.inj H
                    go_enter Tryz.func8, Tryz.ntmps8
                    go_wp2_with (first | ((with_reducible refine gate_callee (f := 23) rfl ?_); refine goesL_ (some 41) rfl rfl Tryz.func23 (by kernel_rfl) rfl #[.string a1] rfl (by (try simp only [List.map_toArray, List.map_cons, List.map_nil]); first | done | rfl | (simp only [List.length_drop, List.length_take]; rfl) | (simp [Act.eval, *]; done) | (simp [Act.eval, *]; unfold wrap64; omega)) ?_; (with_reducible refine (xansi_DECSIN.calls a1 t161 _ A20.out).mono ?_); rintro e w' ⟨rfl, ⟨nd, rfl⟩⟩; refine ⟨_, rfl, ?_⟩))
                    go_ret
                    exact ⟨by first | rfl | (simp [errW_none, errW_some] <;> rfl) | (simp [*, errW_none, errW_some] <;> rfl), by repeat (first | (with_reducible first | exact HB.out | apply below_alloc | apply Go.Proofs.YtjjkagjdbjpikaaGreatDoor.Ext.below_bytes | apply pw_below_drewN | apply below_drew1) | exact HB.out)⟩
                  · rw [if_neg c19] at H
                    have c19b0 : (a0 == 8) = false := beq_eq_false_iff_ne.mpr c19
                    have c19b1 : (a0 != 8) = true := bne_iff_ne.mpr c19
                    by_cases c21 : a0 = 9
                    · rw [if_pos c21] at H
                      have c21b0 : (a0 == 9) = true := beq_iff_eq.mpr c21
                      have c21b1 : (a0 != 9) = false := bne_eq_false_iff_eq.mpr c21
                      clear c21
                      replace H := Option.bind_eq_some_iff.mp H
                      obtain ⟨t162, A220, H⟩ := H
                      replace H : (some t162) = some r := H
                      have A22 := Aside0.mk A220
                      clear A220
                      obtain rfl := Option.some.inj H
                      go_enter Tryz.func8, Tryz.ntmps8
                      go_wp2_with (first | ((with_reducible refine gate_callee (f := 24) rfl ?_); refine goesL_ (some 45) rfl rfl Tryz.func24 (by kernel_rfl) rfl #[.string a1] rfl (by (try simp only [List.map_toArray, List.map_cons, List.map_nil]); first | done | rfl | (simp only [List.length_drop, List.length_take]; rfl) | (simp [Act.eval, *]; done) | (simp [Act.eval, *]; unfold wrap64; omega)) ?_; (with_reducible refine (xansi_DECSWT.calls a1 t162 _ A22.out).mono ?_); rintro e w' ⟨rfl, ⟨nd, rfl⟩⟩; refine ⟨_, rfl, ?_⟩))
                      go_ret
                      exact ⟨by first | rfl | (simp [errW_none, errW_some] <;> rfl) | (simp [*, errW_none, errW_some] <;> rfl), by repeat (first | (with_reducible first | exact HB.out | apply below_alloc | apply Go.Proofs.YtjjkagjdbjpikaaGreatDoor.Ext.below_bytes | apply pw_below_drewN | apply below_drew1) | exact HB.out)⟩
                    · rw [if_neg c21] at H
                      have c21b0 : (a0 == 9) = false := beq_eq_false_iff_ne.mpr c21
                      have c21b1 : (a0 != 9) = true := bne_iff_ne.mpr c21
                      by_cases c23 : a0 = 10
                      · rw [if_pos c23] at H
                        have c23b0 : (a0 == 10) = true := beq_iff_eq.mpr c23
                        have c23b1 : (a0 != 10) = false := bne_eq_false_iff_eq.mpr c23
                        clear c23
                        replace H := Option.bind_eq_some_iff.mp H
                        obtain ⟨t163, A240, H⟩ := H
                        replace H : (some t163) = some r := H
                        have A24 := Aside0.mk A240
                        clear A240
                        obtain rfl := Option.some.inj H
                        go_enter Tryz.func8, Tryz.ntmps8
                        go_wp2_with (first | ((with_reducible refine gate_callee (f := 25) rfl ?_); refine goesL_ (some 49) rfl rfl Tryz.func25 (by kernel_rfl) rfl #[.string a1] rfl (by (try simp only [List.map_toArray, List.map_cons, List.map_nil]); first | done | rfl | (simp only [List.length_drop, List.length_take]; rfl) | (simp [Act.eval, *]; done) | (simp [Act.eval, *]; unfold wrap64; omega)) ?_; (with_reducible refine (xansi_TertiaryDeviceAttributes.calls a1 t163 _ A24.out).mono ?_); rintro e w' ⟨rfl, ⟨nd, rfl⟩⟩; refine ⟨_, rfl, ?_⟩))
                        go_ret
                        exact ⟨by first | rfl | (simp [errW_none, errW_some] <;> rfl) | (simp [*, errW_none, errW_some] <;> rfl), by repeat (first | (with_reducible first | exact HB.out | apply below_alloc | apply Go.Proofs.YtjjkagjdbjpikaaGreatDoor.Ext.below_bytes | apply pw_below_drewN | apply below_drew1) | exact HB.out)⟩
                      · rw [if_neg c23] at H
                        have c23b0 : (a0 == 10) = false := beq_eq_false_iff_ne.mpr c23
                        have c23b1 : (a0 != 10) = true := bne_iff_ne.mpr c23
                        by_cases c25 : a0 = 11
                        · rw [if_pos c25] at H
                          have c25b0 : (a0 == 11) = true := beq_iff_eq.mpr c25
                          have c25b1 : (a0 != 11) = false := bne_eq_false_iff_eq.mpr c25
                          clear c25
                          replace H := Option.bind_eq_some_iff.mp H
                          obtain ⟨t164, A260, H⟩ := H
                          replace H : (some t164) = some r := H
                          have A26 := Aside0.mk A260
                          clear A260
                          obtain rfl := Option.some.inj H
                          go_enter Tryz.func8, Tryz.ntmps8
                          go_wp2_with (first | ((with_reducible refine gate_callee (f := 26) rfl ?_); refine goesL_ (some 53) rfl rfl Tryz.func26 (by kernel_rfl) rfl #[.string a1] rfl (by (try simp only [List.map_toArray, List.map_cons, List.map_nil]); first | done | rfl | (simp only [List.length_drop, List.length_take]; rfl) | (simp [Act.eval, *]; done) | (simp [Act.eval, *]; unfold wrap64; omega)) ?_; (with_reducible refine (xansi_TmuxPassthrough.calls a1 t164 _ A26.out).mono ?_); rintro e w27 ⟨rfl, hb⟩; refine ⟨_, rfl, ?_⟩; have n0_ := Aside0.mk (below_step (by repeat (first | (with_reducible first | exact HB.out | apply below_alloc | apply Go.Proofs.YtjjkagjdbjpikaaGreatDoor.Ext.below_bytes | apply pw_below_drewN | apply below_drew1) | exact HB.out)) hb); clear HB; have HB := n0_; clear n0_; (try clear hb); (try clear hb2); (try clear hk); (try clear hi)))
                          go_ret
                          exact ⟨by first | rfl | (simp [errW_none, errW_some] <;> rfl) | (simp [*, errW_none, errW_some] <;> rfl), by repeat (first | (with_reducible first | exact HB.out | apply below_alloc | apply Go.Proofs.YtjjkagjdbjpikaaGreatDoor.Ext.below_bytes | apply pw_below_drewN | apply below_drew1) | exact HB.out)⟩
                        · rw [if_neg c25] at H
                          have c25b0 : (a0 == 11) = false := beq_eq_false_iff_ne.mpr c25
                          have c25b1 : (a0 != 11) = true := bne_iff_ne.mpr c25
                          by_cases c28 : a0 = 12
                          · rw [if_pos c28] at H
                            have c28b0 : (a0 == 12) = true := beq_iff_eq.mpr c28
                            have c28b1 : (a0 != 12) = false := bne_eq_false_iff_eq.mpr c28
                            clear c28
                            replace H := Option.bind_eq_some_iff.mp H
                            obtain ⟨t165, A290, H⟩ := H
                            replace H : (some t165) = some r := H
                            have A29 := Aside0.mk A290
                            clear A290
                            obtain rfl := Option.some.inj H
                            go_enter Tryz.func8, Tryz.ntmps8
                            go_wp2_with (first | ((with_reducible refine gate_callee (f := 27) rfl ?_); refine goesL_ (some 57) rfl rfl Tryz.func27 (by kernel_rfl) rfl #[.string a1] rfl (by (try simp only [List.map_toArray, List.map_cons, List.map_nil]); first | done | rfl | (simp only [List.length_drop, List.length_take]; rfl) | (simp [Act.eval, *]; done) | (simp [Act.eval, *]; unfold wrap64; omega)) ?_; (with_reducible refine (xansi_ClearProgramStatusID.calls a1 t165 _ A29.out).mono ?_); rintro e w' ⟨rfl, ⟨nd, rfl⟩⟩; refine ⟨_, rfl, ?_⟩))
                            go_ret
                            exact ⟨by first | rfl | (simp [errW_none, errW_some] <;> rfl) | (simp [*, errW_none, errW_some] <;> rfl), by repeat (first | (with_reducible first | exact HB.out | apply below_alloc | apply Go.Proofs.YtjjkagjdbjpikaaGreatDoor.Ext.below_bytes | apply pw_below_drewN | apply below_drew1) | exact HB.out)⟩
                          · rw [if_neg c28] at H
                            have c28b0 : (a0 == 12) = false := beq_eq_false_iff_ne.mpr c28
                            have c28b1 : (a0 != 12) = true := bne_iff_ne.mpr c28
                            obtain rfl := Option.some.inj H
                            go_enter Tryz.func8, Tryz.ntmps8
                            go_wp2
                            go_ret
                            exact ⟨by first | rfl | (simp [errW_none, errW_some] <;> rfl) | (simp [*, errW_none, errW_some] <;> rfl), by repeat (first | (with_reducible first | exact HB.out | apply below_alloc | apply Go.Proofs.YtjjkagjdbjpikaaGreatDoor.Ext.below_bytes | apply pw_below_drewN | apply below_drew1) | exact HB.out)⟩

-- NOT PRINTED: function 3 (laws_FnTextRead)

end Go.Proofs.YtjjkagjdbjpikaaGreatDoor.PT
