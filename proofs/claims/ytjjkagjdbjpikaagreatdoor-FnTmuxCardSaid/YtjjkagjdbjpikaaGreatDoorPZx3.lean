-- Written by wip/pp.py, a program of this session, out of the translation. Not trusted: Lean checks it.
import Derived.Test.YtjjkagjdbjpikaaGreatDoorPZx0
import Derived.Test.YtjjkagjdbjpikaaGreatDoorPZx2
namespace Go.Proofs.YtjjkagjdbjpikaaGreatDoor.PZ
open Go.RowKit Go.Proofs.YtjjkagjdbjpikaaGreatDoor.Or Go.Proofs.YtjjkagjdbjpikaaGreatDoorW.PrintWords Go.Proofs.YtjjkagjdbjpikaaGreatDoorW.PrintLast Go.Proofs.YtjjkagjdbjpikaaGreatDoorW.PrintMore
attribute [local go_sem] max2_int min2_int max_two min_two max_three min_three max_four min_four   -- for this text's walks alone
attribute [local go_sem] Go.Proofs.YtjjkagjdbjpikaaGreatDoor.Ext.wrap64_mod256 Go.Proofs.YtjjkagjdbjpikaaGreatDoor.Ext.wrap64_mod32 Go.Proofs.YtjjkagjdbjpikaaGreatDoor.Ext.i64_mod256 Go.Proofs.YtjjkagjdbjpikaaGreatDoor.Ext.i64_mod32 Go.Proofs.YtjjkagjdbjpikaaGreatDoor.Ext.i64_u8 Go.Proofs.YtjjkagjdbjpikaaGreatDoor.Ext.w64_u8 Go.Proofs.YtjjkagjdbjpikaaGreatDoor.Ext.i64_u32 Go.Proofs.YtjjkagjdbjpikaaGreatDoor.Ext.w64_u32 
set_option linter.unusedVariables false
set_option linter.unusedSimpArgs false

/-! ### impl_MakeText: function 8 -/
def impl_MakeText.f (a0 : Int) (a1 : ByteArray) : Option (ByteArray) := if a0 = 0 then ((xansi_SetWindowTitle.f a1).bind fun t137 => (some t137)) else (if a0 = 1 then ((xansi_SetIconName.f a1).bind fun t138 => (some t138)) else (if a0 = 2 then ((xansi_SetIconNameWindowTitle.f a1).bind fun t139 => (some t139)) else (if a0 = 3 then ((xansi_SetForegroundColor.f a1).bind fun t140 => (some t140)) else (if a0 = 4 then ((xansi_SetBackgroundColor.f a1).bind fun t141 => (some t141)) else (if a0 = 5 then ((xansi_SetCursorColor.f a1).bind fun t142 => (some t142)) else (if a0 = 6 then ((xansi_SetPointerShape.f a1).bind fun t143 => (some t143)) else (if a0 = 7 then ((xansi_Notify.f a1).bind fun t144 => (some t144)) else (if a0 = 8 then ((xansi_DECSIN.f a1).bind fun t145 => (some t145)) else (if a0 = 9 then ((xansi_DECSWT.f a1).bind fun t146 => (some t146)) else (if a0 = 10 then ((xansi_TertiaryDeviceAttributes.f a1).bind fun t147 => (some t147)) else (if a0 = 11 then ((xansi_TmuxPassthrough.f a1).bind fun t148 => (some t148)) else (if a0 = 12 then ((xansi_ClearProgramStatusID.f a1).bind fun t149 => (some t149)) else (some (⟨#[]⟩ : ByteArray))))))))))))))
set_option maxHeartbeats 8000000 in
set_option maxRecDepth 100000 in
theorem impl_MakeText.calls (a0 : Int) (a1 : ByteArray) (r : ByteArray) (w : World) (h : impl_MakeText.f a0 a1 = some r) :
    Calls Tryz.prog 8 #[.int .i64 a0, .string a1] w fun e w' => e = .returned (.string r) ∧ Below w.heap.size w w' := by
  have HB := Aside0.mk (Below.refl w.heap.size w)
  have H : (if a0 = 0 then ((xansi_SetWindowTitle.f a1).bind fun t137 => (some t137)) else (if a0 = 1 then ((xansi_SetIconName.f a1).bind fun t138 => (some t138)) else (if a0 = 2 then ((xansi_SetIconNameWindowTitle.f a1).bind fun t139 => (some t139)) else (if a0 = 3 then ((xansi_SetForegroundColor.f a1).bind fun t140 => (some t140)) else (if a0 = 4 then ((xansi_SetBackgroundColor.f a1).bind fun t141 => (some t141)) else (if a0 = 5 then ((xansi_SetCursorColor.f a1).bind fun t142 => (some t142)) else (if a0 = 6 then ((xansi_SetPointerShape.f a1).bind fun t143 => (some t143)) else (if a0 = 7 then ((xansi_Notify.f a1).bind fun t144 => (some t144)) else (if a0 = 8 then ((xansi_DECSIN.f a1).bind fun t145 => (some t145)) else (if a0 = 9 then ((xansi_DECSWT.f a1).bind fun t146 => (some t146)) else (if a0 = 10 then ((xansi_TertiaryDeviceAttributes.f a1).bind fun t147 => (some t147)) else (if a0 = 11 then ((xansi_TmuxPassthrough.f a1).bind fun t148 => (some t148)) else (if a0 = 12 then ((xansi_ClearProgramStatusID.f a1).bind fun t149 => (some t149)) else (some (⟨#[]⟩ : ByteArray))))))))))))))) = some r := h
  clear h
  by_cases c3 : a0 = 0
  · rw [if_pos c3] at H
    have c3b0 : (a0 == 0) = true := beq_iff_eq.mpr c3
    have c3b1 : (a0 != 0) = false := bne_eq_false_iff_eq.mpr c3
    clear c3
    replace H := Option.bind_eq_some_iff.mp H
    obtain ⟨t137, A40, H⟩ := H
    replace H : (some t137) = some r := H
    have A4 := Aside0.mk A40
    clear A40
    obtain rfl := Option.some.inj H
    go_enter Tryz.func8, Tryz.ntmps8
    go_wp2_with (first | ((with_reducible refine gate_callee (f := 15) rfl ?_); refine goesL_ (some 9) rfl rfl Tryz.func15 (by kernel_rfl) rfl #[.string a1] rfl (by (try simp only [List.map_toArray, List.map_cons, List.map_nil]); first | done | rfl | (simp only [List.length_drop, List.length_take]; rfl) | (simp [Act.eval, *]; done) | (simp [Act.eval, *]; unfold wrap64; omega)) ?_; (with_reducible refine (xansi_SetWindowTitle.calls a1 t137 _ A4.out).mono ?_); rintro e w' ⟨rfl, ⟨nd, rfl⟩⟩; refine ⟨_, rfl, ?_⟩))
    go_ret
    exact ⟨by first | rfl | (simp [errW_none, errW_some] <;> rfl) | (simp [*, errW_none, errW_some] <;> rfl), by repeat (first | (with_reducible first | exact HB.out | apply below_alloc | apply Go.Proofs.YtjjkagjdbjpikaaGreatDoor.Ext.below_bytes | apply pw_below_drewN | apply below_drew1) | exact HB.out)⟩
  · rw [if_neg c3] at H
    have c3b0 : (a0 == 0) = false := beq_eq_false_iff_ne.mpr c3
    have c3b1 : (a0 != 0) = true := bne_iff_ne.mpr c3
    by_cases c5 : a0 = 1
    · rw [if_pos c5] at H
      have c5b0 : (a0 == 1) = true := beq_iff_eq.mpr c5
      have c5b1 : (a0 != 1) = false := bne_eq_false_iff_eq.mpr c5
      clear c5
      replace H := Option.bind_eq_some_iff.mp H
      obtain ⟨t138, A60, H⟩ := H
      replace H : (some t138) = some r := H
      have A6 := Aside0.mk A60
      clear A60
      obtain rfl := Option.some.inj H
      go_enter Tryz.func8, Tryz.ntmps8
      go_wp2_with (first | ((with_reducible refine gate_callee (f := 16) rfl ?_); refine goesL_ (some 13) rfl rfl Tryz.func16 (by kernel_rfl) rfl #[.string a1] rfl (by (try simp only [List.map_toArray, List.map_cons, List.map_nil]); first | done | rfl | (simp only [List.length_drop, List.length_take]; rfl) | (simp [Act.eval, *]; done) | (simp [Act.eval, *]; unfold wrap64; omega)) ?_; (with_reducible refine (xansi_SetIconName.calls a1 t138 _ A6.out).mono ?_); rintro e w' ⟨rfl, ⟨nd, rfl⟩⟩; refine ⟨_, rfl, ?_⟩))
      go_ret
      exact ⟨by first | rfl | (simp [errW_none, errW_some] <;> rfl) | (simp [*, errW_none, errW_some] <;> rfl), by repeat (first | (with_reducible first | exact HB.out | apply below_alloc | apply Go.Proofs.YtjjkagjdbjpikaaGreatDoor.Ext.below_bytes | apply pw_below_drewN | apply below_drew1) | exact HB.out)⟩
    · rw [if_neg c5] at H
      have c5b0 : (a0 == 1) = false := beq_eq_false_iff_ne.mpr c5
      have c5b1 : (a0 != 1) = true := bne_iff_ne.mpr c5
      by_cases c7 : a0 = 2
      · rw [if_pos c7] at H
        have c7b0 : (a0 == 2) = true := beq_iff_eq.mpr c7
        have c7b1 : (a0 != 2) = false := bne_eq_false_iff_eq.mpr c7
        clear c7
        replace H := Option.bind_eq_some_iff.mp H
        obtain ⟨t139, A80, H⟩ := H
        replace H : (some t139) = some r := H
        have A8 := Aside0.mk A80
        clear A80
        obtain rfl := Option.some.inj H
        go_enter Tryz.func8, Tryz.ntmps8
        go_wp2_with (first | ((with_reducible refine gate_callee (f := 17) rfl ?_); refine goesL_ (some 17) rfl rfl Tryz.func17 (by kernel_rfl) rfl #[.string a1] rfl (by (try simp only [List.map_toArray, List.map_cons, List.map_nil]); first | done | rfl | (simp only [List.length_drop, List.length_take]; rfl) | (simp [Act.eval, *]; done) | (simp [Act.eval, *]; unfold wrap64; omega)) ?_; (with_reducible refine (xansi_SetIconNameWindowTitle.calls a1 t139 _ A8.out).mono ?_); rintro e w' ⟨rfl, ⟨nd, rfl⟩⟩; refine ⟨_, rfl, ?_⟩))
        go_ret
        exact ⟨by first | rfl | (simp [errW_none, errW_some] <;> rfl) | (simp [*, errW_none, errW_some] <;> rfl), by repeat (first | (with_reducible first | exact HB.out | apply below_alloc | apply Go.Proofs.YtjjkagjdbjpikaaGreatDoor.Ext.below_bytes | apply pw_below_drewN | apply below_drew1) | exact HB.out)⟩
      · rw [if_neg c7] at H
        have c7b0 : (a0 == 2) = false := beq_eq_false_iff_ne.mpr c7
        have c7b1 : (a0 != 2) = true := bne_iff_ne.mpr c7
        by_cases c9 : a0 = 3
        · rw [if_pos c9] at H
          have c9b0 : (a0 == 3) = true := beq_iff_eq.mpr c9
          have c9b1 : (a0 != 3) = false := bne_eq_false_iff_eq.mpr c9
          clear c9
          replace H := Option.bind_eq_some_iff.mp H
          obtain ⟨t140, A100, H⟩ := H
          replace H : (some t140) = some r := H
          have A10 := Aside0.mk A100
          clear A100
          obtain rfl := Option.some.inj H
          go_enter Tryz.func8, Tryz.ntmps8
          go_wp2_with (first | ((with_reducible refine gate_callee (f := 18) rfl ?_); refine goesL_ (some 21) rfl rfl Tryz.func18 (by kernel_rfl) rfl #[.string a1] rfl (by (try simp only [List.map_toArray, List.map_cons, List.map_nil]); first | done | rfl | (simp only [List.length_drop, List.length_take]; rfl) | (simp [Act.eval, *]; done) | (simp [Act.eval, *]; unfold wrap64; omega)) ?_; (with_reducible refine (xansi_SetForegroundColor.calls a1 t140 _ A10.out).mono ?_); rintro e w' ⟨rfl, ⟨nd, rfl⟩⟩; refine ⟨_, rfl, ?_⟩))
          go_ret
          exact ⟨by first | rfl | (simp [errW_none, errW_some] <;> rfl) | (simp [*, errW_none, errW_some] <;> rfl), by repeat (first | (with_reducible first | exact HB.out | apply below_alloc | apply Go.Proofs.YtjjkagjdbjpikaaGreatDoor.Ext.below_bytes | apply pw_below_drewN | apply below_drew1) | exact HB.out)⟩
        · rw [if_neg c9] at H
          have c9b0 : (a0 == 3) = false := beq_eq_false_iff_ne.mpr c9
          have c9b1 : (a0 != 3) = true := bne_iff_ne.mpr c9
          by_cases c11 : a0 = 4
          · rw [if_pos c11] at H
            have c11b0 : (a0 == 4) = true := beq_iff_eq.mpr c11
            have c11b1 : (a0 != 4) = false := bne_eq_false_iff_eq.mpr c11
            clear c11
            replace H := Option.bind_eq_some_iff.mp H
            obtain ⟨t141, A120, H⟩ := H
            replace H : (some t141) = some r := H
            have A12 := Aside0.mk A120
            clear A120
            obtain rfl := Option.some.inj H
            go_enter Tryz.func8, Tryz.ntmps8
            go_wp2_with (first | ((with_reducible refine gate_callee (f := 19) rfl ?_); refine goesL_ (some 25) rfl rfl Tryz.func19 (by kernel_rfl) rfl #[.string a1] rfl (by (try simp only [List.map_toArray, List.map_cons, List.map_nil]); first | done | rfl | (simp only [List.length_drop, List.length_take]; rfl) | (simp [Act.eval, *]; done) | (simp [Act.eval, *]; unfold wrap64; omega)) ?_; (with_reducible refine (xansi_SetBackgroundColor.calls a1 t141 _ A12.out).mono ?_); rintro e w' ⟨rfl, ⟨nd, rfl⟩⟩; refine ⟨_, rfl, ?_⟩))
            go_ret
            exact ⟨by first | rfl | (simp [errW_none, errW_some] <;> rfl) | (simp [*, errW_none, errW_some] <;> rfl), by repeat (first | (with_reducible first | exact HB.out | apply below_alloc | apply Go.Proofs.YtjjkagjdbjpikaaGreatDoor.Ext.below_bytes | apply pw_below_drewN | apply below_drew1) | exact HB.out)⟩
          · rw [if_neg c11] at H
            have c11b0 : (a0 == 4) = false := beq_eq_false_iff_ne.mpr c11
            have c11b1 : (a0 != 4) = true := bne_iff_ne.mpr c11
            by_cases c13 : a0 = 5
            · rw [if_pos c13] at H
              have c13b0 : (a0 == 5) = true := beq_iff_eq.mpr c13
              have c13b1 : (a0 != 5) = false := bne_eq_false_iff_eq.mpr c13
              clear c13
              replace H := Option.bind_eq_some_iff.mp H
              obtain ⟨t142, A140, H⟩ := H
              replace H : (some t142) = some r := H
              have A14 := Aside0.mk A140
              clear A140
              obtain rfl := Option.some.inj H
              go_enter Tryz.func8, Tryz.ntmps8
              go_wp2_with (first | ((with_reducible refine gate_callee (f := 20) rfl ?_); refine goesL_ (some 29) rfl rfl Tryz.func20 (by kernel_rfl) rfl #[.string a1] rfl (by (try simp only [List.map_toArray, List.map_cons, List.map_nil]); first | done | rfl | (simp only [List.length_drop, List.length_take]; rfl) | (simp [Act.eval, *]; done) | (simp [Act.eval, *]; unfold wrap64; omega)) ?_; (with_reducible refine (xansi_SetCursorColor.calls a1 t142 _ A14.out).mono ?_); rintro e w' ⟨rfl, ⟨nd, rfl⟩⟩; refine ⟨_, rfl, ?_⟩))
              go_ret
              exact ⟨by first | rfl | (simp [errW_none, errW_some] <;> rfl) | (simp [*, errW_none, errW_some] <;> rfl), by repeat (first | (with_reducible first | exact HB.out | apply below_alloc | apply Go.Proofs.YtjjkagjdbjpikaaGreatDoor.Ext.below_bytes | apply pw_below_drewN | apply below_drew1) | exact HB.out)⟩
            · rw [if_neg c13] at H
              have c13b0 : (a0 == 5) = false := beq_eq_false_iff_ne.mpr c13
              have c13b1 : (a0 != 5) = true := bne_iff_ne.mpr c13
              by_cases c15 : a0 = 6
              · rw [if_pos c15] at H
                have c15b0 : (a0 == 6) = true := beq_iff_eq.mpr c15
                have c15b1 : (a0 != 6) = false := bne_eq_false_iff_eq.mpr c15
                clear c15
                replace H := Option.bind_eq_some_iff.mp H
                obtain ⟨t143, A160, H⟩ := H
                replace H : (some t143) = some r := H
                have A16 := Aside0.mk A160
                clear A160
                obtain rfl := Option.some.inj H
                go_enter Tryz.func8, Tryz.ntmps8
                go_wp2_with (first | ((with_reducible refine gate_callee (f := 21) rfl ?_); refine goesL_ (some 33) rfl rfl Tryz.func21 (by kernel_rfl) rfl #[.string a1] rfl (by (try simp only [List.map_toArray, List.map_cons, List.map_nil]); first | done | rfl | (simp only [List.length_drop, List.length_take]; rfl) | (simp [Act.eval, *]; done) | (simp [Act.eval, *]; unfold wrap64; omega)) ?_; (with_reducible refine (xansi_SetPointerShape.calls a1 t143 _ A16.out).mono ?_); rintro e w' ⟨rfl, ⟨nd, rfl⟩⟩; refine ⟨_, rfl, ?_⟩))
                go_ret
                exact ⟨by first | rfl | (simp [errW_none, errW_some] <;> rfl) | (simp [*, errW_none, errW_some] <;> rfl), by repeat (first | (with_reducible first | exact HB.out | apply below_alloc | apply Go.Proofs.YtjjkagjdbjpikaaGreatDoor.Ext.below_bytes | apply pw_below_drewN | apply below_drew1) | exact HB.out)⟩
              · rw [if_neg c15] at H
                have c15b0 : (a0 == 6) = false := beq_eq_false_iff_ne.mpr c15
                have c15b1 : (a0 != 6) = true := bne_iff_ne.mpr c15
                by_cases c17 : a0 = 7
                · rw [if_pos c17] at H
                  have c17b0 : (a0 == 7) = true := beq_iff_eq.mpr c17
                  have c17b1 : (a0 != 7) = false := bne_eq_false_iff_eq.mpr c17
                  clear c17
                  replace H := Option.bind_eq_some_iff.mp H
                  obtain ⟨t144, A180, H⟩ := H
                  replace H : (some t144) = some r := H
                  have A18 := Aside0.mk A180
                  clear A180
                  obtain rfl := Option.some.inj H
                  go_enter Tryz.func8, Tryz.ntmps8
                  go_wp2_with (first | ((with_reducible refine gate_callee (f := 22) rfl ?_); refine goesL_ (some 37) rfl rfl Tryz.func22 (by kernel_rfl) rfl #[.string a1] rfl (by (try simp only [List.map_toArray, List.map_cons, List.map_nil]); first | done | rfl | (simp only [List.length_drop, List.length_take]; rfl) | (simp [Act.eval, *]; done) | (simp [Act.eval, *]; unfold wrap64; omega)) ?_; (with_reducible refine (xansi_Notify.calls a1 t144 _ A18.out).mono ?_); rintro e w' ⟨rfl, ⟨nd, rfl⟩⟩; refine ⟨_, rfl, ?_⟩))
                  go_ret
                  exact ⟨by first | rfl | (simp [errW_none, errW_some] <;> rfl) | (simp [*, errW_none, errW_some] <;> rfl), by repeat (first | (with_reducible first | exact HB.out | apply below_alloc | apply Go.Proofs.YtjjkagjdbjpikaaGreatDoor.Ext.below_bytes | apply pw_below_drewN | apply below_drew1) | exact HB.out)⟩
                · rw [if_neg c17] at H
                  have c17b0 : (a0 == 7) = false := beq_eq_false_iff_ne.mpr c17
                  have c17b1 : (a0 != 7) = true := bne_iff_ne.mpr c17
                  by_cases c19 : a0 = 8
                  · rw [if_pos c19] at H
                    have c19b0 : (a0 == 8) = true := beq_iff_eq.mpr c19
                    have c19b1 : (a0 != 8) = false := bne_eq_false_iff_eq.mpr c19
                    clear c19
                    replace H := Option.bind_eq_some_iff.mp H
                    obtain ⟨t145, A200, H⟩ := H
                    replace H : (some t145) = some r := H
                    have A20 := Aside0.mk A200
                    clear A200
                    obtain rfl := Option.some.inj H
                    go_enter Tryz.func8, Tryz.ntmps8
                    go_wp2_with (first | ((with_reducible refine gate_callee (f := 23) rfl ?_); refine goesL_ (some 41) rfl rfl Tryz.func23 (by kernel_rfl) rfl #[.string a1] rfl (by (try simp only [List.map_toArray, List.map_cons, List.map_nil]); first | done | rfl | (simp only [List.length_drop, List.length_take]; rfl) | (simp [Act.eval, *]; done) | (simp [Act.eval, *]; unfold wrap64; omega)) ?_; (with_reducible refine (xansi_DECSIN.calls a1 t145 _ A20.out).mono ?_); rintro e w' ⟨rfl, ⟨nd, rfl⟩⟩; refine ⟨_, rfl, ?_⟩))
                    go_ret
                    exact ⟨by first | rfl | (simp [errW_none, errW_some] <;> rfl) | (simp [*, errW_none, errW_some] <;> rfl), by repeat (first | (with_reducible first | exact HB.out | apply below_alloc | apply Go.Proofs.YtjjkagjdbjpikaaGreatDoor.Ext.below_bytes | apply pw_below_drewN | apply below_drew1) | exact HB.out)⟩
                  · rw [if_neg c19] at H
                    have c19b0 : (a0 == 8) = false := beq_eq_false_iff_ne.mpr c19
                    have c19b1 : (a0 != 8) = true := bne_iff_ne.mpr c19
                    by_cases c21 : a0 = 9
                    · rw [if_pos c21] at H
                      have c21b0 : (a0 == 9) = true := beq_iff_eq.mpr c21
                      have c21b1 : (a0 != 9) = false := bne_eq_false_iff_eq.mpr c21
                      clear c21
                      replace H := Option.bind_eq_some_iff.mp H
                      obtain ⟨t146, A220, H⟩ := H
                      replace H : (some t146) = some r := H
                      have A22 := Aside0.mk A220
                      clear A220
                      obtain rfl := Option.some.inj H
                      go_enter Tryz.func8, Tryz.ntmps8
                      go_wp2_with (first | ((with_reducible refine gate_callee (f := 24) rfl ?_); refine goesL_ (some 45) rfl rfl Tryz.func24 (by kernel_rfl) rfl #[.string a1] rfl (by (try simp only [List.map_toArray, List.map_cons, List.map_nil]); first | done | rfl | (simp only [List.length_drop, List.length_take]; rfl) | (simp [Act.eval, *]; done) | (simp [Act.eval, *]; unfold wrap64; omega)) ?_; (with_reducible refine (xansi_DECSWT.calls a1 t146 _ A22.out).mono ?_); rintro e w' ⟨rfl, ⟨nd, rfl⟩⟩; refine ⟨_, rfl, ?_⟩))
                      go_ret
                      exact ⟨by first | rfl | (simp [errW_none, errW_some] <;> rfl) | (simp [*, errW_none, errW_some] <;> rfl), by repeat (first | (with_reducible first | exact HB.out | apply below_alloc | apply Go.Proofs.YtjjkagjdbjpikaaGreatDoor.Ext.below_bytes | apply pw_below_drewN | apply below_drew1) | exact HB.out)⟩
                    · rw [if_neg c21] at H
                      have c21b0 : (a0 == 9) = false := beq_eq_false_iff_ne.mpr c21
                      have c21b1 : (a0 != 9) = true := bne_iff_ne.mpr c21
                      by_cases c23 : a0 = 10
                      · rw [if_pos c23] at H
                        have c23b0 : (a0 == 10) = true := beq_iff_eq.mpr c23
                        have c23b1 : (a0 != 10) = false := bne_eq_false_iff_eq.mpr c23
                        clear c23
                        replace H := Option.bind_eq_some_iff.mp H
                        obtain ⟨t147, A240, H⟩ := H
                        replace H : (some t147) = some r := H
                        have A24 := Aside0.mk A240
                        clear A240
                        obtain rfl := Option.some.inj H
                        go_enter Tryz.func8, Tryz.ntmps8
                        go_wp2_with (first | ((with_reducible refine gate_callee (f := 25) rfl ?_); refine goesL_ (some 49) rfl rfl Tryz.func25 (by kernel_rfl) rfl #[.string a1] rfl (by (try simp only [List.map_toArray, List.map_cons, List.map_nil]); first | done | rfl | (simp only [List.length_drop, List.length_take]; rfl) | (simp [Act.eval, *]; done) | (simp [Act.eval, *]; unfold wrap64; omega)) ?_; (with_reducible refine (xansi_TertiaryDeviceAttributes.calls a1 t147 _ A24.out).mono ?_); rintro e w' ⟨rfl, ⟨nd, rfl⟩⟩; refine ⟨_, rfl, ?_⟩))
                        go_ret
                        exact ⟨by first | rfl | (simp [errW_none, errW_some] <;> rfl) | (simp [*, errW_none, errW_some] <;> rfl), by repeat (first | (with_reducible first | exact HB.out | apply below_alloc | apply Go.Proofs.YtjjkagjdbjpikaaGreatDoor.Ext.below_bytes | apply pw_below_drewN | apply below_drew1) | exact HB.out)⟩
                      · rw [if_neg c23] at H
                        have c23b0 : (a0 == 10) = false := beq_eq_false_iff_ne.mpr c23
                        have c23b1 : (a0 != 10) = true := bne_iff_ne.mpr c23
                        by_cases c25 : a0 = 11
                        · rw [if_pos c25] at H
                          have c25b0 : (a0 == 11) = true := beq_iff_eq.mpr c25
                          have c25b1 : (a0 != 11) = false := bne_eq_false_iff_eq.mpr c25
                          clear c25
                          replace H := Option.bind_eq_some_iff.mp H
                          obtain ⟨t148, A260, H⟩ := H
                          replace H : (some t148) = some r := H
                          have A26 := Aside0.mk A260
                          clear A260
                          obtain rfl := Option.some.inj H
                          go_enter Tryz.func8, Tryz.ntmps8
                          go_wp2_with (first | ((with_reducible refine gate_callee (f := 26) rfl ?_); refine goesL_ (some 53) rfl rfl Tryz.func26 (by kernel_rfl) rfl #[.string a1] rfl (by (try simp only [List.map_toArray, List.map_cons, List.map_nil]); first | done | rfl | (simp only [List.length_drop, List.length_take]; rfl) | (simp [Act.eval, *]; done) | (simp [Act.eval, *]; unfold wrap64; omega)) ?_; (with_reducible refine (xansi_TmuxPassthrough.calls a1 t148 _ A26.out).mono ?_); rintro e w27 ⟨rfl, hb⟩; refine ⟨_, rfl, ?_⟩; have n0_ := Aside0.mk (below_step (by repeat (first | (with_reducible first | exact HB.out | apply below_alloc | apply Go.Proofs.YtjjkagjdbjpikaaGreatDoor.Ext.below_bytes | apply pw_below_drewN | apply below_drew1) | exact HB.out)) hb); clear HB; have HB := n0_; clear n0_; (try clear hb); (try clear hb2); (try clear hk); (try clear hi)))
                          go_ret
                          exact ⟨by first | rfl | (simp [errW_none, errW_some] <;> rfl) | (simp [*, errW_none, errW_some] <;> rfl), by repeat (first | (with_reducible first | exact HB.out | apply below_alloc | apply Go.Proofs.YtjjkagjdbjpikaaGreatDoor.Ext.below_bytes | apply pw_below_drewN | apply below_drew1) | exact HB.out)⟩
                        · rw [if_neg c25] at H
                          have c25b0 : (a0 == 11) = false := beq_eq_false_iff_ne.mpr c25
                          have c25b1 : (a0 != 11) = true := bne_iff_ne.mpr c25
                          by_cases c28 : a0 = 12
                          · rw [if_pos c28] at H
                            have c28b0 : (a0 == 12) = true := beq_iff_eq.mpr c28
                            have c28b1 : (a0 != 12) = false := bne_eq_false_iff_eq.mpr c28
                            clear c28
                            replace H := Option.bind_eq_some_iff.mp H
                            obtain ⟨t149, A290, H⟩ := H
                            replace H : (some t149) = some r := H
                            have A29 := Aside0.mk A290
                            clear A290
                            obtain rfl := Option.some.inj H
                            go_enter Tryz.func8, Tryz.ntmps8
                            go_wp2_with (first | ((with_reducible refine gate_callee (f := 27) rfl ?_); refine goesL_ (some 57) rfl rfl Tryz.func27 (by kernel_rfl) rfl #[.string a1] rfl (by (try simp only [List.map_toArray, List.map_cons, List.map_nil]); first | done | rfl | (simp only [List.length_drop, List.length_take]; rfl) | (simp [Act.eval, *]; done) | (simp [Act.eval, *]; unfold wrap64; omega)) ?_; (with_reducible refine (xansi_ClearProgramStatusID.calls a1 t149 _ A29.out).mono ?_); rintro e w' ⟨rfl, ⟨nd, rfl⟩⟩; refine ⟨_, rfl, ?_⟩))
                            go_ret
                            exact ⟨by first | rfl | (simp [errW_none, errW_some] <;> rfl) | (simp [*, errW_none, errW_some] <;> rfl), by repeat (first | (with_reducible first | exact HB.out | apply below_alloc | apply Go.Proofs.YtjjkagjdbjpikaaGreatDoor.Ext.below_bytes | apply pw_below_drewN | apply below_drew1) | exact HB.out)⟩
                          · rw [if_neg c28] at H
                            have c28b0 : (a0 == 12) = false := beq_eq_false_iff_ne.mpr c28
                            have c28b1 : (a0 != 12) = true := bne_iff_ne.mpr c28
                            obtain rfl := Option.some.inj H
                            go_enter Tryz.func8, Tryz.ntmps8
                            go_wp2
                            go_ret
                            exact ⟨by first | rfl | (simp [errW_none, errW_some] <;> rfl) | (simp [*, errW_none, errW_some] <;> rfl), by repeat (first | (with_reducible first | exact HB.out | apply below_alloc | apply Go.Proofs.YtjjkagjdbjpikaaGreatDoor.Ext.below_bytes | apply pw_below_drewN | apply below_drew1) | exact HB.out)⟩

-- NOT PRINTED: function 4 (laws_FnTmux)

end Go.Proofs.YtjjkagjdbjpikaaGreatDoor.PZ
