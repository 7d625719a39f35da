-- Written by wip/pp.py, a program of this session, out of the translation. Not trusted: Lean checks it.
import Derived.Test.YtplmmblofhhikaaDoorPUx0
import Derived.Test.YtplmmblofhhikaaDoorPUx1
import Derived.Test.YtplmmblofhhikaaDoorPUx2
import Derived.Test.YtplmmblofhhikaaDoorPUx3
namespace Go.Proofs.YtplmmblofhhikaaDoor.PU
open Go.RowKit Go.Proofs.YtplmmblofhhikaaDoor.Or Go.Proofs.YtplmmblofhhikaaDoorW.PrintWords Go.Proofs.YtplmmblofhhikaaDoorW.PrintLast Go.Proofs.YtplmmblofhhikaaDoorW.PrintMore
attribute [local go_sem] max2_int min2_int max_two min_two max_three min_three max_four min_four   -- for this text's walks alone
attribute [local go_sem] Go.Proofs.YtplmmblofhhikaaDoor.Ext.wrap64_mod256 Go.Proofs.YtplmmblofhhikaaDoor.Ext.wrap64_mod32 Go.Proofs.YtplmmblofhhikaaDoor.Ext.i64_mod256 Go.Proofs.YtplmmblofhhikaaDoor.Ext.i64_mod32 Go.Proofs.YtplmmblofhhikaaDoor.Ext.i64_u8 Go.Proofs.YtplmmblofhhikaaDoor.Ext.w64_u8 Go.Proofs.YtplmmblofhhikaaDoor.Ext.i64_u32 Go.Proofs.YtplmmblofhhikaaDoor.Ext.w64_u32 
set_option linter.unusedVariables false
set_option linter.unusedSimpArgs false

/-! ### impl_MakeNumber: function 16 -/
def impl_MakeNumber.f (k : Nat) (a0 : Int) (a1 : Int) : Option (ByteArray) := if a0 = 0 then ((xansi_CursorUp.f a1).bind fun t139 => (some t139)) else (if a0 = 1 then ((xansi_CursorDown.f a1).bind fun t140 => (some t140)) else (if a0 = 2 then ((xansi_CursorForward.f a1).bind fun t141 => (some t141)) else (if a0 = 3 then ((xansi_CursorBackward.f a1).bind fun t142 => (some t142)) else (if a0 = 4 then ((xansi_CursorNextLine.f a1).bind fun t143 => (some t143)) else (if a0 = 5 then ((xansi_CursorPreviousLine.f a1).bind fun t144 => (some t144)) else (if a0 = 6 then ((xansi_CursorHorizontalAbsolute.f a1).bind fun t145 => (some t145)) else (if a0 = 7 then ((xansi_CursorHorizontalForwardTab.f a1).bind fun t146 => (some t146)) else (if a0 = 8 then ((xansi_CursorBackwardTab.f a1).bind fun t147 => (some t147)) else (if a0 = 9 then ((xansi_EraseCharacter.f a1).bind fun t148 => (some t148)) else (if a0 = 10 then ((xansi_EraseDisplay.f a1).bind fun t149 => (some t149)) else (if a0 = 11 then ((xansi_EraseLine.f a1).bind fun t150 => (some t150)) else (if a0 = 12 then ((xansi_ScrollUp.f a1).bind fun t151 => (some t151)) else (if a0 = 13 then ((xansi_ScrollDown.f a1).bind fun t152 => (some t152)) else (if a0 = 14 then ((xansi_InsertLine.f a1).bind fun t153 => (some t153)) else (if a0 = 15 then ((xansi_DeleteLine.f a1).bind fun t154 => (some t154)) else (if a0 = 16 then ((xansi_InsertCharacter.f a1).bind fun t155 => (some t155)) else (if a0 = 17 then ((xansi_DeleteCharacter.f a1).bind fun t156 => (some t156)) else (if a0 = 18 then ((xansi_VerticalPositionAbsolute.f a1).bind fun t157 => (some t157)) else (if a0 = 19 then ((xansi_VerticalPositionRelative.f a1).bind fun t158 => (some t158)) else (if a0 = 20 then ((xansi_HorizontalPositionAbsolute.f a1).bind fun t159 => (some t159)) else (if a0 = 21 then ((xansi_HorizontalPositionRelative.f a1).bind fun t160 => (some t160)) else (if a0 = 22 then ((xansi_RepeatPreviousCharacter.f a1).bind fun t161 => (some t161)) else (if a0 = 23 then ((xansi_SetCursorStyle.f k a1).bind fun t162 => (some t162)) else (if a0 = 24 then ((xansi_TabClear.f a1).bind fun t163 => (some t163)) else (if a0 = 25 then ((xansi_RequestPresentationStateReport.f a1).bind fun t164 => (some t164)) else (if a0 = 26 then ((xansi_PushKittyKeyboard.f a1).bind fun t165 => (some t165)) else (if a0 = 27 then ((xansi_PopKittyKeyboard.f a1).bind fun t166 => (some t166)) else (if a0 = 28 then ((xansi_QueryKeyModifierOptions.f a1).bind fun t167 => (some t167)) else (if a0 = 29 then ((xansi_ResetKeyModifierOptions.f k a1).bind fun t168 => (some t168)) else (if a0 = 30 then ((xansi_ModifyOtherKeys.f a1).bind fun t169 => (some t169)) else (if a0 = 31 then ((xansi_SetProgressBar.f a1).bind fun t170 => (some t170)) else (if a0 = 32 then ((xansi_SetErrorProgressBar.f a1).bind fun t171 => (some t171)) else (if a0 = 33 then ((xansi_SetWarningProgressBar.f a1).bind fun t172 => (some t172)) else (some (⟨#[]⟩ : ByteArray)))))))))))))))))))))))))))))))))))
theorem impl_MakeNumber.mono : ∀ a0 a1 k, LeO (impl_MakeNumber.f k a0 a1) (impl_MakeNumber.f (k + 1) a0 a1) := by
  intro a0 a1 k
  unfold impl_MakeNumber.f
  repeat' first
      | (with_reducible exact xansi_ResetKeyModifierOptions.mono _ _)
      | (with_reducible exact xansi_SetCursorStyle.mono _ _)
      | (with_reducible exact LeO.refl _)
      | (with_reducible exact LeO.none _)
      | (with_reducible refine LeO.ite ?_ ?_)
      | (with_reducible refine LeO.bind ?_ (fun _ => ?_))
      | exact xansi_ResetKeyModifierOptions.mono _ _
      | exact xansi_SetCursorStyle.mono _ _
      | exact LeO.none _
      | refine LeO.ite ?_ ?_
      | refine LeO.bind ?_ (fun _ => ?_)
set_option maxHeartbeats 8000000 in
set_option maxRecDepth 100000 in
theorem impl_MakeNumber.calls (k : Nat) (a0 : Int) (a1 : Int) (r : ByteArray) (w : World) (hLD : Laid w) (h : impl_MakeNumber.f k a0 a1 = some r) :
    Calls Tryd.prog 16 #[.int .i64 a0, .int .i64 a1] w fun e w' => e = .returned (.string r) ∧ Below w.heap.size w w' := by
  have HLD := Aside0.mk hLD
  clear hLD
  have HB := Aside0.mk (Below.refl w.heap.size w)
  have H : (if a0 = 0 then ((xansi_CursorUp.f a1).bind fun t139 => (some t139)) else (if a0 = 1 then ((xansi_CursorDown.f a1).bind fun t140 => (some t140)) else (if a0 = 2 then ((xansi_CursorForward.f a1).bind fun t141 => (some t141)) else (if a0 = 3 then ((xansi_CursorBackward.f a1).bind fun t142 => (some t142)) else (if a0 = 4 then ((xansi_CursorNextLine.f a1).bind fun t143 => (some t143)) else (if a0 = 5 then ((xansi_CursorPreviousLine.f a1).bind fun t144 => (some t144)) else (if a0 = 6 then ((xansi_CursorHorizontalAbsolute.f a1).bind fun t145 => (some t145)) else (if a0 = 7 then ((xansi_CursorHorizontalForwardTab.f a1).bind fun t146 => (some t146)) else (if a0 = 8 then ((xansi_CursorBackwardTab.f a1).bind fun t147 => (some t147)) else (if a0 = 9 then ((xansi_EraseCharacter.f a1).bind fun t148 => (some t148)) else (if a0 = 10 then ((xansi_EraseDisplay.f a1).bind fun t149 => (some t149)) else (if a0 = 11 then ((xansi_EraseLine.f a1).bind fun t150 => (some t150)) else (if a0 = 12 then ((xansi_ScrollUp.f a1).bind fun t151 => (some t151)) else (if a0 = 13 then ((xansi_ScrollDown.f a1).bind fun t152 => (some t152)) else (if a0 = 14 then ((xansi_InsertLine.f a1).bind fun t153 => (some t153)) else (if a0 = 15 then ((xansi_DeleteLine.f a1).bind fun t154 => (some t154)) else (if a0 = 16 then ((xansi_InsertCharacter.f a1).bind fun t155 => (some t155)) else (if a0 = 17 then ((xansi_DeleteCharacter.f a1).bind fun t156 => (some t156)) else (if a0 = 18 then ((xansi_VerticalPositionAbsolute.f a1).bind fun t157 => (some t157)) else (if a0 = 19 then ((xansi_VerticalPositionRelative.f a1).bind fun t158 => (some t158)) else (if a0 = 20 then ((xansi_HorizontalPositionAbsolute.f a1).bind fun t159 => (some t159)) else (if a0 = 21 then ((xansi_HorizontalPositionRelative.f a1).bind fun t160 => (some t160)) else (if a0 = 22 then ((xansi_RepeatPreviousCharacter.f a1).bind fun t161 => (some t161)) else (if a0 = 23 then ((xansi_SetCursorStyle.f k a1).bind fun t162 => (some t162)) else (if a0 = 24 then ((xansi_TabClear.f a1).bind fun t163 => (some t163)) else (if a0 = 25 then ((xansi_RequestPresentationStateReport.f a1).bind fun t164 => (some t164)) else (if a0 = 26 then ((xansi_PushKittyKeyboard.f a1).bind fun t165 => (some t165)) else (if a0 = 27 then ((xansi_PopKittyKeyboard.f a1).bind fun t166 => (some t166)) else (if a0 = 28 then ((xansi_QueryKeyModifierOptions.f a1).bind fun t167 => (some t167)) else (if a0 = 29 then ((xansi_ResetKeyModifierOptions.f k a1).bind fun t168 => (some t168)) else (if a0 = 30 then ((xansi_ModifyOtherKeys.f a1).bind fun t169 => (some t169)) else (if a0 = 31 then ((xansi_SetProgressBar.f a1).bind fun t170 => (some t170)) else (if a0 = 32 then ((xansi_SetErrorProgressBar.f a1).bind fun t171 => (some t171)) else (if a0 = 33 then ((xansi_SetWarningProgressBar.f a1).bind fun t172 => (some t172)) else (some (⟨#[]⟩ : ByteArray)))))))))))))))))))))))))))))))))))) = some r := h
  clear h
  by_cases c3 : a0 = 0
  · rw [if_pos c3] at H
    have c3b0 : (a0 == 0) = true := beq_iff_eq.mpr c3
    have c3b1 : (a0 != 0) = false := bne_eq_false_iff_eq.mpr c3
    clear c3
    replace H := Option.bind_eq_some_iff.mp H
    obtain ⟨t139, A40, H⟩ := H
    replace H : (some t139) = some r := H
    have A4 := Aside0.mk A40
    clear A40
    obtain rfl := Option.some.inj H
    go_enter Tryd.func16, Tryd.ntmps16
    go_wp2_with (first | ((with_reducible refine gate_callee (f := 37) rfl ?_); refine goesL_ (some 11) rfl rfl Tryd.func37 (by kernel_rfl) rfl #[.int .i64 a1] rfl (by (try simp only [List.map_toArray, List.map_cons, List.map_nil]); first | done | rfl | (simp only [List.length_drop, List.length_take]; rfl) | (simp [Act.eval, *]; done) | (simp [Act.eval, *]; unfold wrap64; omega)) ?_; (with_reducible refine (xansi_CursorUp.calls a1 t139 _ ?side1 A4.out).mono ?_); (case side1 => exact HLD.out.below (by repeat (first | (with_reducible first | exact HB.out | apply below_alloc | apply Go.Proofs.YtplmmblofhhikaaDoor.Ext.below_bytes | apply pw_below_drewN | apply below_drew1) | exact HB.out))); rintro e w5 ⟨rfl, hb⟩; refine ⟨_, rfl, ?_⟩; have n0_ := Aside0.mk (below_step (by repeat (first | (with_reducible first | exact HB.out | apply below_alloc | apply Go.Proofs.YtplmmblofhhikaaDoor.Ext.below_bytes | apply pw_below_drewN | apply below_drew1) | exact HB.out)) hb); clear HB; have HB := n0_; clear n0_; (try clear hb); (try clear hb2); (try clear hk); (try clear hi)))
    go_ret
    exact ⟨by first | rfl | (simp [errW_none, errW_some] <;> rfl) | (simp [*, errW_none, errW_some] <;> rfl), by repeat (first | (with_reducible first | exact HB.out | apply below_alloc | apply Go.Proofs.YtplmmblofhhikaaDoor.Ext.below_bytes | apply pw_below_drewN | apply below_drew1) | exact HB.out)⟩
  · rw [if_neg c3] at H
    have c3b0 : (a0 == 0) = false := beq_eq_false_iff_ne.mpr c3
    have c3b1 : (a0 != 0) = true := bne_iff_ne.mpr c3
    by_cases c6 : a0 = 1
    · rw [if_pos c6] at H
      have c6b0 : (a0 == 1) = true := beq_iff_eq.mpr c6
      have c6b1 : (a0 != 1) = false := bne_eq_false_iff_eq.mpr c6
      clear c6
      replace H := Option.bind_eq_some_iff.mp H
      obtain ⟨t140, A70, H⟩ := H
      replace H : (some t140) = some r := H
      have A7 := Aside0.mk A70
      clear A70
      obtain rfl := Option.some.inj H
      go_enter Tryd.func16, Tryd.ntmps16
      go_wp2_with (first | ((with_reducible refine gate_callee (f := 38) rfl ?_); refine goesL_ (some 15) rfl rfl Tryd.func38 (by kernel_rfl) rfl #[.int .i64 a1] rfl (by (try simp only [List.map_toArray, List.map_cons, List.map_nil]); first | done | rfl | (simp only [List.length_drop, List.length_take]; rfl) | (simp [Act.eval, *]; done) | (simp [Act.eval, *]; unfold wrap64; omega)) ?_; (with_reducible refine (xansi_CursorDown.calls a1 t140 _ ?side1 A7.out).mono ?_); (case side1 => exact HLD.out.below (by repeat (first | (with_reducible first | exact HB.out | apply below_alloc | apply Go.Proofs.YtplmmblofhhikaaDoor.Ext.below_bytes | apply pw_below_drewN | apply below_drew1) | exact HB.out))); rintro e w8 ⟨rfl, hb⟩; refine ⟨_, rfl, ?_⟩; have n0_ := Aside0.mk (below_step (by repeat (first | (with_reducible first | exact HB.out | apply below_alloc | apply Go.Proofs.YtplmmblofhhikaaDoor.Ext.below_bytes | apply pw_below_drewN | apply below_drew1) | exact HB.out)) hb); clear HB; have HB := n0_; clear n0_; (try clear hb); (try clear hb2); (try clear hk); (try clear hi)))
      go_ret
      exact ⟨by first | rfl | (simp [errW_none, errW_some] <;> rfl) | (simp [*, errW_none, errW_some] <;> rfl), by repeat (first | (with_reducible first | exact HB.out | apply below_alloc | apply Go.Proofs.YtplmmblofhhikaaDoor.Ext.below_bytes | apply pw_below_drewN | apply below_drew1) | exact HB.out)⟩
    · rw [if_neg c6] at H
      have c6b0 : (a0 == 1) = false := beq_eq_false_iff_ne.mpr c6
      have c6b1 : (a0 != 1) = true := bne_iff_ne.mpr c6
      by_cases c9 : a0 = 2
      · rw [if_pos c9] at H
        have c9b0 : (a0 == 2) = true := beq_iff_eq.mpr c9
        have c9b1 : (a0 != 2) = false := bne_eq_false_iff_eq.mpr c9
        clear c9
        replace H := Option.bind_eq_some_iff.mp H
        obtain ⟨t141, A100, H⟩ := H
        replace H : (some t141) = some r := H
        have A10 := Aside0.mk A100
        clear A100
        obtain rfl := Option.some.inj H
        go_enter Tryd.func16, Tryd.ntmps16
        go_wp2_with (first | ((with_reducible refine gate_callee (f := 39) rfl ?_); refine goesL_ (some 19) rfl rfl Tryd.func39 (by kernel_rfl) rfl #[.int .i64 a1] rfl (by (try simp only [List.map_toArray, List.map_cons, List.map_nil]); first | done | rfl | (simp only [List.length_drop, List.length_take]; rfl) | (simp [Act.eval, *]; done) | (simp [Act.eval, *]; unfold wrap64; omega)) ?_; (with_reducible refine (xansi_CursorForward.calls a1 t141 _ ?side1 A10.out).mono ?_); (case side1 => exact HLD.out.below (by repeat (first | (with_reducible first | exact HB.out | apply below_alloc | apply Go.Proofs.YtplmmblofhhikaaDoor.Ext.below_bytes | apply pw_below_drewN | apply below_drew1) | exact HB.out))); rintro e w11 ⟨rfl, hb⟩; refine ⟨_, rfl, ?_⟩; have n0_ := Aside0.mk (below_step (by repeat (first | (with_reducible first | exact HB.out | apply below_alloc | apply Go.Proofs.YtplmmblofhhikaaDoor.Ext.below_bytes | apply pw_below_drewN | apply below_drew1) | exact HB.out)) hb); clear HB; have HB := n0_; clear n0_; (try clear hb); (try clear hb2); (try clear hk); (try clear hi)))
        go_ret
        exact ⟨by first | rfl | (simp [errW_none, errW_some] <;> rfl) | (simp [*, errW_none, errW_some] <;> rfl), by repeat (first | (with_reducible first | exact HB.out | apply below_alloc | apply Go.Proofs.YtplmmblofhhikaaDoor.Ext.below_bytes | apply pw_below_drewN | apply below_drew1) | exact HB.out)⟩
      · rw [if_neg c9] at H
        have c9b0 : (a0 == 2) = false := beq_eq_false_iff_ne.mpr c9
        have c9b1 : (a0 != 2) = true := bne_iff_ne.mpr c9
        by_cases c12 : a0 = 3
        · rw [if_pos c12] at H
          have c12b0 : (a0 == 3) = true := beq_iff_eq.mpr c12
          have c12b1 : (a0 != 3) = false := bne_eq_false_iff_eq.mpr c12
          clear c12
          replace H := Option.bind_eq_some_iff.mp H
          obtain ⟨t142, A130, H⟩ := H
          replace H : (some t142) = some r := H
          have A13 := Aside0.mk A130
          clear A130
          obtain rfl := Option.some.inj H
          go_enter Tryd.func16, Tryd.ntmps16
          go_wp2_with (first | ((with_reducible refine gate_callee (f := 40) rfl ?_); refine goesL_ (some 23) rfl rfl Tryd.func40 (by kernel_rfl) rfl #[.int .i64 a1] rfl (by (try simp only [List.map_toArray, List.map_cons, List.map_nil]); first | done | rfl | (simp only [List.length_drop, List.length_take]; rfl) | (simp [Act.eval, *]; done) | (simp [Act.eval, *]; unfold wrap64; omega)) ?_; (with_reducible refine (xansi_CursorBackward.calls a1 t142 _ ?side1 A13.out).mono ?_); (case side1 => exact HLD.out.below (by repeat (first | (with_reducible first | exact HB.out | apply below_alloc | apply Go.Proofs.YtplmmblofhhikaaDoor.Ext.below_bytes | apply pw_below_drewN | apply below_drew1) | exact HB.out))); rintro e w14 ⟨rfl, hb⟩; refine ⟨_, rfl, ?_⟩; have n0_ := Aside0.mk (below_step (by repeat (first | (with_reducible first | exact HB.out | apply below_alloc | apply Go.Proofs.YtplmmblofhhikaaDoor.Ext.below_bytes | apply pw_below_drewN | apply below_drew1) | exact HB.out)) hb); clear HB; have HB := n0_; clear n0_; (try clear hb); (try clear hb2); (try clear hk); (try clear hi)))
          go_ret
          exact ⟨by first | rfl | (simp [errW_none, errW_some] <;> rfl) | (simp [*, errW_none, errW_some] <;> rfl), by repeat (first | (with_reducible first | exact HB.out | apply below_alloc | apply Go.Proofs.YtplmmblofhhikaaDoor.Ext.below_bytes | apply pw_below_drewN | apply below_drew1) | exact HB.out)⟩
        · rw [if_neg c12] at H
          have c12b0 : (a0 == 3) = false := beq_eq_false_iff_ne.mpr c12
          have c12b1 : (a0 != 3) = true := bne_iff_ne.mpr c12
          by_cases c15 : a0 = 4
          · rw [if_pos c15] at H
            have c15b0 : (a0 == 4) = true := beq_iff_eq.mpr c15
            have c15b1 : (a0 != 4) = false := bne_eq_false_iff_eq.mpr c15
            clear c15
            replace H := Option.bind_eq_some_iff.mp H
            obtain ⟨t143, A160, H⟩ := H
            replace H : (some t143) = some r := H
            have A16 := Aside0.mk A160
            clear A160
            obtain rfl := Option.some.inj H
            go_enter Tryd.func16, Tryd.ntmps16
            go_wp2_with (first | ((with_reducible refine gate_callee (f := 41) rfl ?_); refine goesL_ (some 27) rfl rfl Tryd.func41 (by kernel_rfl) rfl #[.int .i64 a1] rfl (by (try simp only [List.map_toArray, List.map_cons, List.map_nil]); first | done | rfl | (simp only [List.length_drop, List.length_take]; rfl) | (simp [Act.eval, *]; done) | (simp [Act.eval, *]; unfold wrap64; omega)) ?_; (with_reducible refine (xansi_CursorNextLine.calls a1 t143 _ ?side1 A16.out).mono ?_); (case side1 => exact HLD.out.below (by repeat (first | (with_reducible first | exact HB.out | apply below_alloc | apply Go.Proofs.YtplmmblofhhikaaDoor.Ext.below_bytes | apply pw_below_drewN | apply below_drew1) | exact HB.out))); rintro e w17 ⟨rfl, hb⟩; refine ⟨_, rfl, ?_⟩; have n0_ := Aside0.mk (below_step (by repeat (first | (with_reducible first | exact HB.out | apply below_alloc | apply Go.Proofs.YtplmmblofhhikaaDoor.Ext.below_bytes | apply pw_below_drewN | apply below_drew1) | exact HB.out)) hb); clear HB; have HB := n0_; clear n0_; (try clear hb); (try clear hb2); (try clear hk); (try clear hi)))
            go_ret
            exact ⟨by first | rfl | (simp [errW_none, errW_some] <;> rfl) | (simp [*, errW_none, errW_some] <;> rfl), by repeat (first | (with_reducible first | exact HB.out | apply below_alloc | apply Go.Proofs.YtplmmblofhhikaaDoor.Ext.below_bytes | apply pw_below_drewN | apply below_drew1) | exact HB.out)⟩
          · rw [if_neg c15] at H
            have c15b0 : (a0 == 4) = false := beq_eq_false_iff_ne.mpr c15
            have c15b1 : (a0 != 4) = true := bne_iff_ne.mpr c15
            by_cases c18 : a0 = 5
            · rw [if_pos c18] at H
              have c18b0 : (a0 == 5) = true := beq_iff_eq.mpr c18
              have c18b1 : (a0 != 5) = false := bne_eq_false_iff_eq.mpr c18
              clear c18
              replace H := Option.bind_eq_some_iff.mp H
              obtain ⟨t144, A190, H⟩ := H
              replace H : (some t144) = some r := H
              have A19 := Aside0.mk A190
              clear A190
              obtain rfl := Option.some.inj H
              go_enter Tryd.func16, Tryd.ntmps16
              go_wp2_with (first | ((with_reducible refine gate_callee (f := 42) rfl ?_); refine goesL_ (some 31) rfl rfl Tryd.func42 (by kernel_rfl) rfl #[.int .i64 a1] rfl (by (try simp only [List.map_toArray, List.map_cons, List.map_nil]); first | done | rfl | (simp only [List.length_drop, List.length_take]; rfl) | (simp [Act.eval, *]; done) | (simp [Act.eval, *]; unfold wrap64; omega)) ?_; (with_reducible refine (xansi_CursorPreviousLine.calls a1 t144 _ ?side1 A19.out).mono ?_); (case side1 => exact HLD.out.below (by repeat (first | (with_reducible first | exact HB.out | apply below_alloc | apply Go.Proofs.YtplmmblofhhikaaDoor.Ext.below_bytes | apply pw_below_drewN | apply below_drew1) | exact HB.out))); rintro e w20 ⟨rfl, hb⟩; refine ⟨_, rfl, ?_⟩; have n0_ := Aside0.mk (below_step (by repeat (first | (with_reducible first | exact HB.out | apply below_alloc | apply Go.Proofs.YtplmmblofhhikaaDoor.Ext.below_bytes | apply pw_below_drewN | apply below_drew1) | exact HB.out)) hb); clear HB; have HB := n0_; clear n0_; (try clear hb); (try clear hb2); (try clear hk); (try clear hi)))
              go_ret
              exact ⟨by first | rfl | (simp [errW_none, errW_some] <;> rfl) | (simp [*, errW_none, errW_some] <;> rfl), by repeat (first | (with_reducible first | exact HB.out | apply below_alloc | apply Go.Proofs.YtplmmblofhhikaaDoor.Ext.below_bytes | apply pw_below_drewN | apply below_drew1) | exact HB.out)⟩
            · rw [if_neg c18] at H
              have c18b0 : (a0 == 5) = false := beq_eq_false_iff_ne.mpr c18
              have c18b1 : (a0 != 5) = true := bne_iff_ne.mpr c18
              by_cases c21 : a0 = 6
              · rw [if_pos c21] at H
                have c21b0 : (a0 == 6) = true := beq_iff_eq.mpr c21
                have c21b1 : (a0 != 6) = false := bne_eq_false_iff_eq.mpr c21
                clear c21
                replace H := Option.bind_eq_some_iff.mp H
                obtain ⟨t145, A220, H⟩ := H
                replace H : (some t145) = some r := H
                have A22 := Aside0.mk A220
                clear A220
                obtain rfl := Option.some.inj H
                go_enter Tryd.func16, Tryd.ntmps16
                go_wp2_with (first | ((with_reducible refine gate_callee (f := 43) rfl ?_); refine goesL_ (some 35) rfl rfl Tryd.func43 (by kernel_rfl) rfl #[.int .i64 a1] rfl (by (try simp only [List.map_toArray, List.map_cons, List.map_nil]); first | done | rfl | (simp only [List.length_drop, List.length_take]; rfl) | (simp [Act.eval, *]; done) | (simp [Act.eval, *]; unfold wrap64; omega)) ?_; (with_reducible refine (xansi_CursorHorizontalAbsolute.calls a1 t145 _ ?side1 A22.out).mono ?_); (case side1 => exact HLD.out.below (by repeat (first | (with_reducible first | exact HB.out | apply below_alloc | apply Go.Proofs.YtplmmblofhhikaaDoor.Ext.below_bytes | apply pw_below_drewN | apply below_drew1) | exact HB.out))); rintro e w23 ⟨rfl, hb⟩; refine ⟨_, rfl, ?_⟩; have n0_ := Aside0.mk (below_step (by repeat (first | (with_reducible first | exact HB.out | apply below_alloc | apply Go.Proofs.YtplmmblofhhikaaDoor.Ext.below_bytes | apply pw_below_drewN | apply below_drew1) | exact HB.out)) hb); clear HB; have HB := n0_; clear n0_; (try clear hb); (try clear hb2); (try clear hk); (try clear hi)))
                go_ret
                exact ⟨by first | rfl | (simp [errW_none, errW_some] <;> rfl) | (simp [*, errW_none, errW_some] <;> rfl), by repeat (first | (with_reducible first | exact HB.out | apply below_alloc | apply Go.Proofs.YtplmmblofhhikaaDoor.Ext.below_bytes | apply pw_below_drewN | apply below_drew1) | exact HB.out)⟩
              · rw [if_neg c21] at H
                have c21b0 : (a0 == 6) = false := beq_eq_false_iff_ne.mpr c21
                have c21b1 : (a0 != 6) = true := bne_iff_ne.mpr c21
                by_cases c24 : a0 = 7
                · rw [if_pos c24] at H
                  have c24b0 : (a0 == 7) = true := beq_iff_eq.mpr c24
                  have c24b1 : (a0 != 7) = false := bne_eq_false_iff_eq.mpr c24
                  clear c24
                  replace H := Option.bind_eq_some_iff.mp H
                  obtain ⟨t146, A250, H⟩ := H
                  replace H : (some t146) = some r := H
                  have A25 := Aside0.mk A250
                  clear A250
                  obtain rfl := Option.some.inj H
                  go_enter Tryd.func16, Tryd.ntmps16
                  go_wp2_with (first | ((with_reducible refine gate_callee (f := 44) rfl ?_); refine goesL_ (some 39) rfl rfl Tryd.func44 (by kernel_rfl) rfl #[.int .i64 a1] rfl (by (try simp only [List.map_toArray, List.map_cons, List.map_nil]); first | done | rfl | (simp only [List.length_drop, List.length_take]; rfl) | (simp [Act.eval, *]; done) | (simp [Act.eval, *]; unfold wrap64; omega)) ?_; (with_reducible refine (xansi_CursorHorizontalForwardTab.calls a1 t146 _ ?side1 A25.out).mono ?_); (case side1 => exact HLD.out.below (by repeat (first | (with_reducible first | exact HB.out | apply below_alloc | apply Go.Proofs.YtplmmblofhhikaaDoor.Ext.below_bytes | apply pw_below_drewN | apply below_drew1) | exact HB.out))); rintro e w26 ⟨rfl, hb⟩; refine ⟨_, rfl, ?_⟩; have n0_ := Aside0.mk (below_step (by repeat (first | (with_reducible first | exact HB.out | apply below_alloc | apply Go.Proofs.YtplmmblofhhikaaDoor.Ext.below_bytes | apply pw_below_drewN | apply below_drew1) | exact HB.out)) hb); clear HB; have HB := n0_; clear n0_; (try clear hb); (try clear hb2); (try clear hk); (try clear hi)))
                  go_ret
                  exact ⟨by first | rfl | (simp [errW_none, errW_some] <;> rfl) | (simp [*, errW_none, errW_some] <;> rfl), by repeat (first | (with_reducible first | exact HB.out | apply below_alloc | apply Go.Proofs.YtplmmblofhhikaaDoor.Ext.below_bytes | apply pw_below_drewN | apply below_drew1) | exact HB.out)⟩
                · rw [if_neg c24] at H
                  have c24b0 : (a0 == 7) = false := beq_eq_false_iff_ne.mpr c24
                  have c24b1 : (a0 != 7) = true := bne_iff_ne.mpr c24
                  by_cases c27 : a0 = 8
                  · rw [if_pos c27] at H
                    have c27b0 : (a0 == 8) = true := beq_iff_eq.mpr c27
                    have c27b1 : (a0 != 8) = false := bne_eq_false_iff_eq.mpr c27
                    clear c27
                    replace H := Option.bind_eq_some_iff.mp H
                    obtain ⟨t147, A280, H⟩ := H
                    replace H : (some t147) = some r := H
                    have A28 := Aside0.mk A280
                    clear A280
                    obtain rfl := Option.some.inj H
                    go_enter Tryd.func16, Tryd.ntmps16
                    go_wp2_with (first | ((with_reducible refine gate_callee (f := 45) rfl ?_); refine goesL_ (some 43) rfl rfl Tryd.func45 (by kernel_rfl) rfl #[.int .i64 a1] rfl (by (try simp only [List.map_toArray, List.map_cons, List.map_nil]); first | done | rfl | (simp only [List.length_drop, List.length_take]; rfl) | (simp [Act.eval, *]; done) | (simp [Act.eval, *]; unfold wrap64; omega)) ?_; (with_reducible refine (xansi_CursorBackwardTab.calls a1 t147 _ ?side1 A28.out).mono ?_); (case side1 => exact HLD.out.below (by repeat (first | (with_reducible first | exact HB.out | apply below_alloc | apply Go.Proofs.YtplmmblofhhikaaDoor.Ext.below_bytes | apply pw_below_drewN | apply below_drew1) | exact HB.out))); rintro e w29 ⟨rfl, hb⟩; refine ⟨_, rfl, ?_⟩; have n0_ := Aside0.mk (below_step (by repeat (first | (with_reducible first | exact HB.out | apply below_alloc | apply Go.Proofs.YtplmmblofhhikaaDoor.Ext.below_bytes | apply pw_below_drewN | apply below_drew1) | exact HB.out)) hb); clear HB; have HB := n0_; clear n0_; (try clear hb); (try clear hb2); (try clear hk); (try clear hi)))
                    go_ret
                    exact ⟨by first | rfl | (simp [errW_none, errW_some] <;> rfl) | (simp [*, errW_none, errW_some] <;> rfl), by repeat (first | (with_reducible first | exact HB.out | apply below_alloc | apply Go.Proofs.YtplmmblofhhikaaDoor.Ext.below_bytes | apply pw_below_drewN | apply below_drew1) | exact HB.out)⟩
                  · rw [if_neg c27] at H
                    have c27b0 : (a0 == 8) = false := beq_eq_false_iff_ne.mpr c27
                    have c27b1 : (a0 != 8) = true := bne_iff_ne.mpr c27
                    by_cases c30 : a0 = 9
                    · rw [if_pos c30] at H
                      have c30b0 : (a0 == 9) = true := beq_iff_eq.mpr c30
                      have c30b1 : (a0 != 9) = false := bne_eq_false_iff_eq.mpr c30
                      clear c30
                      replace H := Option.bind_eq_some_iff.mp H
                      obtain ⟨t148, A310, H⟩ := H
                      replace H : (some t148) = some r := H
                      have A31 := Aside0.mk A310
                      clear A310
                      obtain rfl := Option.some.inj H
                      go_enter Tryd.func16, Tryd.ntmps16
                      go_wp2_with (first | ((with_reducible refine gate_callee (f := 46) rfl ?_); refine goesL_ (some 47) rfl rfl Tryd.func46 (by kernel_rfl) rfl #[.int .i64 a1] rfl (by (try simp only [List.map_toArray, List.map_cons, List.map_nil]); first | done | rfl | (simp only [List.length_drop, List.length_take]; rfl) | (simp [Act.eval, *]; done) | (simp [Act.eval, *]; unfold wrap64; omega)) ?_; (with_reducible refine (xansi_EraseCharacter.calls a1 t148 _ ?side1 A31.out).mono ?_); (case side1 => exact HLD.out.below (by repeat (first | (with_reducible first | exact HB.out | apply below_alloc | apply Go.Proofs.YtplmmblofhhikaaDoor.Ext.below_bytes | apply pw_below_drewN | apply below_drew1) | exact HB.out))); rintro e w32 ⟨rfl, hb⟩; refine ⟨_, rfl, ?_⟩; have n0_ := Aside0.mk (below_step (by repeat (first | (with_reducible first | exact HB.out | apply below_alloc | apply Go.Proofs.YtplmmblofhhikaaDoor.Ext.below_bytes | apply pw_below_drewN | apply below_drew1) | exact HB.out)) hb); clear HB; have HB := n0_; clear n0_; (try clear hb); (try clear hb2); (try clear hk); (try clear hi)))
                      go_ret
                      exact ⟨by first | rfl | (simp [errW_none, errW_some] <;> rfl) | (simp [*, errW_none, errW_some] <;> rfl), by repeat (first | (with_reducible first | exact HB.out | apply below_alloc | apply Go.Proofs.YtplmmblofhhikaaDoor.Ext.below_bytes | apply pw_below_drewN | apply below_drew1) | exact HB.out)⟩
                    · rw [if_neg c30] at H
                      have c30b0 : (a0 == 9) = false := beq_eq_false_iff_ne.mpr c30
                      have c30b1 : (a0 != 9) = true := bne_iff_ne.mpr c30
                      by_cases c33 : a0 = 10
                      · rw [if_pos c33] at H
                        have c33b0 : (a0 == 10) = true := beq_iff_eq.mpr c33
                        have c33b1 : (a0 != 10) = false := bne_eq_false_iff_eq.mpr c33
                        clear c33
                        replace H := Option.bind_eq_some_iff.mp H
                        obtain ⟨t149, A340, H⟩ := H
                        replace H : (some t149) = some r := H
                        have A34 := Aside0.mk A340
                        clear A340
                        obtain rfl := Option.some.inj H
                        go_enter Tryd.func16, Tryd.ntmps16
                        go_wp2_with (first | ((with_reducible refine gate_callee (f := 47) rfl ?_); refine goesL_ (some 51) rfl rfl Tryd.func47 (by kernel_rfl) rfl #[.int .i64 a1] rfl (by (try simp only [List.map_toArray, List.map_cons, List.map_nil]); first | done | rfl | (simp only [List.length_drop, List.length_take]; rfl) | (simp [Act.eval, *]; done) | (simp [Act.eval, *]; unfold wrap64; omega)) ?_; (with_reducible refine (xansi_EraseDisplay.calls a1 t149 _ ?side1 A34.out).mono ?_); (case side1 => exact HLD.out.below (by repeat (first | (with_reducible first | exact HB.out | apply below_alloc | apply Go.Proofs.YtplmmblofhhikaaDoor.Ext.below_bytes | apply pw_below_drewN | apply below_drew1) | exact HB.out))); rintro e w35 ⟨rfl, hb⟩; refine ⟨_, rfl, ?_⟩; have n0_ := Aside0.mk (below_step (by repeat (first | (with_reducible first | exact HB.out | apply below_alloc | apply Go.Proofs.YtplmmblofhhikaaDoor.Ext.below_bytes | apply pw_below_drewN | apply below_drew1) | exact HB.out)) hb); clear HB; have HB := n0_; clear n0_; (try clear hb); (try clear hb2); (try clear hk); (try clear hi)))
                        go_ret
                        exact ⟨by first | rfl | (simp [errW_none, errW_some] <;> rfl) | (simp [*, errW_none, errW_some] <;> rfl), by repeat (first | (with_reducible first | exact HB.out | apply below_alloc | apply Go.Proofs.YtplmmblofhhikaaDoor.Ext.below_bytes | apply pw_below_drewN | apply below_drew1) | exact HB.out)⟩
                      · rw [if_neg c33] at H
                        have c33b0 : (a0 == 10) = false := beq_eq_false_iff_ne.mpr c33
                        have c33b1 : (a0 != 10) = true := bne_iff_ne.mpr c33
                        by_cases c36 : a0 = 11
                        · rw [if_pos c36] at H
                          have c36b0 : (a0 == 11) = true := beq_iff_eq.mpr c36
                          have c36b1 : (a0 != 11) = false := bne_eq_false_iff_eq.mpr c36
                          clear c36
                          replace H := Option.bind_eq_some_iff.mp H
                          obtain ⟨t150, A370, H⟩ := H
                          replace H : (some t150) = some r := H
                          have A37 := Aside0.mk A370
                          clear A370
                          obtain rfl := Option.some.inj H
                          go_enter Tryd.func16, Tryd.ntmps16
                          go_wp2_with (first | ((with_reducible refine gate_callee (f := 48) rfl ?_); refine goesL_ (some 55) rfl rfl Tryd.func48 (by kernel_rfl) rfl #[.int .i64 a1] rfl (by (try simp only [List.map_toArray, List.map_cons, List.map_nil]); first | done | rfl | (simp only [List.length_drop, List.length_take]; rfl) | (simp [Act.eval, *]; done) | (simp [Act.eval, *]; unfold wrap64; omega)) ?_; (with_reducible refine (xansi_EraseLine.calls a1 t150 _ ?side1 A37.out).mono ?_); (case side1 => exact HLD.out.below (by repeat (first | (with_reducible first | exact HB.out | apply below_alloc | apply Go.Proofs.YtplmmblofhhikaaDoor.Ext.below_bytes | apply pw_below_drewN | apply below_drew1) | exact HB.out))); rintro e w38 ⟨rfl, hb⟩; refine ⟨_, rfl, ?_⟩; have n0_ := Aside0.mk (below_step (by repeat (first | (with_reducible first | exact HB.out | apply below_alloc | apply Go.Proofs.YtplmmblofhhikaaDoor.Ext.below_bytes | apply pw_below_drewN | apply below_drew1) | exact HB.out)) hb); clear HB; have HB := n0_; clear n0_; (try clear hb); (try clear hb2); (try clear hk); (try clear hi)))
                          go_ret
                          exact ⟨by first | rfl | (simp [errW_none, errW_some] <;> rfl) | (simp [*, errW_none, errW_some] <;> rfl), by repeat (first | (with_reducible first | exact HB.out | apply below_alloc | apply Go.Proofs.YtplmmblofhhikaaDoor.Ext.below_bytes | apply pw_below_drewN | apply below_drew1) | exact HB.out)⟩
                        · rw [if_neg c36] at H
                          have c36b0 : (a0 == 11) = false := beq_eq_false_iff_ne.mpr c36
                          have c36b1 : (a0 != 11) = true := bne_iff_ne.mpr c36
                          by_cases c39 : a0 = 12
                          · rw [if_pos c39] at H
                            have c39b0 : (a0 == 12) = true := beq_iff_eq.mpr c39
                            have c39b1 : (a0 != 12) = false := bne_eq_false_iff_eq.mpr c39
                            clear c39
                            replace H := Option.bind_eq_some_iff.mp H
                            obtain ⟨t151, A400, H⟩ := H
                            replace H : (some t151) = some r := H
                            have A40 := Aside0.mk A400
                            clear A400
                            obtain rfl := Option.some.inj H
                            go_enter Tryd.func16, Tryd.ntmps16
                            go_wp2_with (first | ((with_reducible refine gate_callee (f := 49) rfl ?_); refine goesL_ (some 59) rfl rfl Tryd.func49 (by kernel_rfl) rfl #[.int .i64 a1] rfl (by (try simp only [List.map_toArray, List.map_cons, List.map_nil]); first | done | rfl | (simp only [List.length_drop, List.length_take]; rfl) | (simp [Act.eval, *]; done) | (simp [Act.eval, *]; unfold wrap64; omega)) ?_; (with_reducible refine (xansi_ScrollUp.calls a1 t151 _ ?side1 A40.out).mono ?_); (case side1 => exact HLD.out.below (by repeat (first | (with_reducible first | exact HB.out | apply below_alloc | apply Go.Proofs.YtplmmblofhhikaaDoor.Ext.below_bytes | apply pw_below_drewN | apply below_drew1) | exact HB.out))); rintro e w41 ⟨rfl, hb⟩; refine ⟨_, rfl, ?_⟩; have n0_ := Aside0.mk (below_step (by repeat (first | (with_reducible first | exact HB.out | apply below_alloc | apply Go.Proofs.YtplmmblofhhikaaDoor.Ext.below_bytes | apply pw_below_drewN | apply below_drew1) | exact HB.out)) hb); clear HB; have HB := n0_; clear n0_; (try clear hb); (try clear hb2); (try clear hk); (try clear hi)))
                            go_ret
                            exact ⟨by first | rfl | (simp [errW_none, errW_some] <;> rfl) | (simp [*, errW_none, errW_some] <;> rfl), by repeat (first | (with_reducible first | exact HB.out | apply below_alloc | apply Go.Proofs.YtplmmblofhhikaaDoor.Ext.below_bytes | apply pw_below_drewN | apply below_drew1) | exact HB.out)⟩
                          · rw [if_neg c39] at H
                            have c39b0 : (a0 == 12) = false := beq_eq_false_iff_ne.mpr c39
                            have c39b1 : (a0 != 12) = true := bne_iff_ne.mpr c39
                            by_cases c42 : a0 = 13
                            · rw [if_pos c42] at H
                              have c42b0 : (a0 == 13) = true := beq_iff_eq.mpr c42
                              have c42b1 : (a0 != 13) = false := bne_eq_false_iff_eq.mpr c42
                              clear c42
                              replace H := Option.bind_eq_some_iff.mp H
                              obtain ⟨t152, A430, H⟩ := H
                              replace H : (some t152) = some r := H
                              have A43 := Aside0.mk A430
                              clear A430
                              obtain rfl := Option.some.inj H
                              go_enter Tryd.func16, Tryd.ntmps16
                              go_wp2_with (first | ((with_reducible refine gate_callee (f := 50) rfl ?_); refine goesL_ (some 63) rfl rfl Tryd.func50 (by kernel_rfl) rfl #[.int .i64 a1] rfl (by (try simp only [List.map_toArray, List.map_cons, List.map_nil]); first | done | rfl | (simp only [List.length_drop, List.length_take]; rfl) | (simp [Act.eval, *]; done) | (simp [Act.eval, *]; unfold wrap64; omega)) ?_; (with_reducible refine (xansi_ScrollDown.calls a1 t152 _ ?side1 A43.out).mono ?_); (case side1 => exact HLD.out.below (by repeat (first | (with_reducible first | exact HB.out | apply below_alloc | apply Go.Proofs.YtplmmblofhhikaaDoor.Ext.below_bytes | apply pw_below_drewN | apply below_drew1) | exact HB.out))); rintro e w44 ⟨rfl, hb⟩; refine ⟨_, rfl, ?_⟩; have n0_ := Aside0.mk (below_step (by repeat (first | (with_reducible first | exact HB.out | apply below_alloc | apply Go.Proofs.YtplmmblofhhikaaDoor.Ext.below_bytes | apply pw_below_drewN | apply below_drew1) | exact HB.out)) hb); clear HB; have HB := n0_; clear n0_; (try clear hb); (try clear hb2); (try clear hk); (try clear hi)))
                              go_ret
                              exact ⟨by first | rfl | (simp [errW_none, errW_some] <;> rfl) | (simp [*, errW_none, errW_some] <;> rfl), by repeat (first | (with_reducible first | exact HB.out | apply below_alloc | apply Go.Proofs.YtplmmblofhhikaaDoor.Ext.below_bytes | apply pw_below_drewN | apply below_drew1) | exact HB.out)⟩
                            · rw [if_neg c42] at H
                              have c42b0 : (a0 == 13) = false := beq_eq_false_iff_ne.mpr c42
                              have c42b1 : (a0 != 13) = true := bne_iff_ne.mpr c42
                              by_cases c45 : a0 = 14
                              · rw [if_pos c45] at H
                                have c45b0 : (a0 == 14) = true := beq_iff_eq.mpr c45
                                have c45b1 : (a0 != 14) = false := bne_eq_false_iff_eq.mpr c45
                                clear c45
                                replace H := Option.bind_eq_some_iff.mp H
                                obtain ⟨t153, A460, H⟩ := H
                                replace H : (some t153) = some r := H
                                have A46 := Aside0.mk A460
                                clear A460
                                obtain rfl := Option.some.inj H
                                go_enter Tryd.func16, Tryd.ntmps16
                                go_wp2_with (first | ((with_reducible refine gate_callee (f := 51) rfl ?_); refine goesL_ (some 67) rfl rfl Tryd.func51 (by kernel_rfl) rfl #[.int .i64 a1] rfl (by (try simp only [List.map_toArray, List.map_cons, List.map_nil]); first | done | rfl | (simp only [List.length_drop, List.length_take]; rfl) | (simp [Act.eval, *]; done) | (simp [Act.eval, *]; unfold wrap64; omega)) ?_; (with_reducible refine (xansi_InsertLine.calls a1 t153 _ ?side1 A46.out).mono ?_); (case side1 => exact HLD.out.below (by repeat (first | (with_reducible first | exact HB.out | apply below_alloc | apply Go.Proofs.YtplmmblofhhikaaDoor.Ext.below_bytes | apply pw_below_drewN | apply below_drew1) | exact HB.out))); rintro e w47 ⟨rfl, hb⟩; refine ⟨_, rfl, ?_⟩; have n0_ := Aside0.mk (below_step (by repeat (first | (with_reducible first | exact HB.out | apply below_alloc | apply Go.Proofs.YtplmmblofhhikaaDoor.Ext.below_bytes | apply pw_below_drewN | apply below_drew1) | exact HB.out)) hb); clear HB; have HB := n0_; clear n0_; (try clear hb); (try clear hb2); (try clear hk); (try clear hi)))
                                go_ret
                                exact ⟨by first | rfl | (simp [errW_none, errW_some] <;> rfl) | (simp [*, errW_none, errW_some] <;> rfl), by repeat (first | (with_reducible first | exact HB.out | apply below_alloc | apply Go.Proofs.YtplmmblofhhikaaDoor.Ext.below_bytes | apply pw_below_drewN | apply below_drew1) | exact HB.out)⟩
                              · rw [if_neg c45] at H
                                have c45b0 : (a0 == 14) = false := beq_eq_false_iff_ne.mpr c45
                                have c45b1 : (a0 != 14) = true := bne_iff_ne.mpr c45
                                by_cases c48 : a0 = 15
                                · rw [if_pos c48] at H
                                  have c48b0 : (a0 == 15) = true := beq_iff_eq.mpr c48
                                  have c48b1 : (a0 != 15) = false := bne_eq_false_iff_eq.mpr c48
                                  clear c48
                                  replace H := Option.bind_eq_some_iff.mp H
                                  obtain ⟨t154, A490, H⟩ := H
                                  replace H : (some t154) = some r := H
                                  have A49 := Aside0.mk A490
                                  clear A490
                                  obtain rfl := Option.some.inj H
                                  go_enter Tryd.func16, Tryd.ntmps16
                                  go_wp2_with (first | ((with_reducible refine gate_callee (f := 52) rfl ?_); refine goesL_ (some 71) rfl rfl Tryd.func52 (by kernel_rfl) rfl #[.int .i64 a1] rfl (by (try simp only [List.map_toArray, List.map_cons, List.map_nil]); first | done | rfl | (simp only [List.length_drop, List.length_take]; rfl) | (simp [Act.eval, *]; done) | (simp [Act.eval, *]; unfold wrap64; omega)) ?_; (with_reducible refine (xansi_DeleteLine.calls a1 t154 _ ?side1 A49.out).mono ?_); (case side1 => exact HLD.out.below (by repeat (first | (with_reducible first | exact HB.out | apply below_alloc | apply Go.Proofs.YtplmmblofhhikaaDoor.Ext.below_bytes | apply pw_below_drewN | apply below_drew1) | exact HB.out))); rintro e w50 ⟨rfl, hb⟩; refine ⟨_, rfl, ?_⟩; have n0_ := Aside0.mk (below_step (by repeat (first | (with_reducible first | exact HB.out | apply below_alloc | apply Go.Proofs.YtplmmblofhhikaaDoor.Ext.below_bytes | apply pw_below_drewN | apply below_drew1) | exact HB.out)) hb); clear HB; have HB := n0_; clear n0_; (try clear hb); (try clear hb2); (try clear hk); (try clear hi)))
                                  go_ret
                                  exact ⟨by first | rfl | (simp [errW_none, errW_some] <;> rfl) | (simp [*, errW_none, errW_some] <;> rfl), by repeat (first | (with_reducible first | exact HB.out | apply below_alloc | apply Go.Proofs.YtplmmblofhhikaaDoor.Ext.below_bytes | apply pw_below_drewN | apply below_drew1) | exact HB.out)⟩
                                · rw [if_neg c48] at H
                                  have c48b0 : (a0 == 15) = false := beq_eq_false_iff_ne.mpr c48
                                  have c48b1 : (a0 != 15) = true := bne_iff_ne.mpr c48
                                  by_cases c51 : a0 = 16
                                  · rw [if_pos c51] at H
                                    have c51b0 : (a0 == 16) = true := beq_iff_eq.mpr c51
                                    have c51b1 : (a0 != 16) = false := bne_eq_false_iff_eq.mpr c51
                                    clear c51
                                    replace H := Option.bind_eq_some_iff.mp H
                                    obtain ⟨t155, A520, H⟩ := H
                                    replace H : (some t155) = some r := H
                                    have A52 := Aside0.mk A520
                                    clear A520
                                    obtain rfl := Option.some.inj H
                                    go_enter Tryd.func16, Tryd.ntmps16
                                    go_wp2_with (first | ((with_reducible refine gate_callee (f := 53) rfl ?_); refine goesL_ (some 75) rfl rfl Tryd.func53 (by kernel_rfl) rfl #[.int .i64 a1] rfl (by (try simp only [List.map_toArray, List.map_cons, List.map_nil]); first | done | rfl | (simp only [List.length_drop, List.length_take]; rfl) | (simp [Act.eval, *]; done) | (simp [Act.eval, *]; unfold wrap64; omega)) ?_; (with_reducible refine (xansi_InsertCharacter.calls a1 t155 _ ?side1 A52.out).mono ?_); (case side1 => exact HLD.out.below (by repeat (first | (with_reducible first | exact HB.out | apply below_alloc | apply Go.Proofs.YtplmmblofhhikaaDoor.Ext.below_bytes | apply pw_below_drewN | apply below_drew1) | exact HB.out))); rintro e w53 ⟨rfl, hb⟩; refine ⟨_, rfl, ?_⟩; have n0_ := Aside0.mk (below_step (by repeat (first | (with_reducible first | exact HB.out | apply below_alloc | apply Go.Proofs.YtplmmblofhhikaaDoor.Ext.below_bytes | apply pw_below_drewN | apply below_drew1) | exact HB.out)) hb); clear HB; have HB := n0_; clear n0_; (try clear hb); (try clear hb2); (try clear hk); (try clear hi)))
                                    go_ret
                                    exact ⟨by first | rfl | (simp [errW_none, errW_some] <;> rfl) | (simp [*, errW_none, errW_some] <;> rfl), by repeat (first | (with_reducible first | exact HB.out | apply below_alloc | apply Go.Proofs.YtplmmblofhhikaaDoor.Ext.below_bytes | apply pw_below_drewN | apply below_drew1) | exact HB.out)⟩
                                  · rw [if_neg c51] at H
                                    have c51b0 : (a0 == 16) = false := beq_eq_false_iff_ne.mpr c51
                                    have c51b1 : (a0 != 16) = true := bne_iff_ne.mpr c51
                                    by_cases c54 : a0 = 17
                                    · rw [if_pos c54] at H
                                      have c54b0 : (a0 == 17) = true := beq_iff_eq.mpr c54
                                      have c54b1 : (a0 != 17) = false := bne_eq_false_iff_eq.mpr c54
                                      clear c54
                                      replace H := Option.bind_eq_some_iff.mp H
                                      obtain ⟨t156, A550, H⟩ := H
                                      replace H : (some t156) = some r := H
                                      have A55 := Aside0.mk A550
                                      clear A550
                                      obtain rfl := Option.some.inj H
                                      go_enter Tryd.func16, Tryd.ntmps16
                                      go_wp2_with (first | ((with_reducible refine gate_callee (f := 54) rfl ?_); refine goesL_ (some 79) rfl rfl Tryd.func54 (by kernel_rfl) rfl #[.int .i64 a1] rfl (by (try simp only [List.map_toArray, List.map_cons, List.map_nil]); first | done | rfl | (simp only [List.length_drop, List.length_take]; rfl) | (simp [Act.eval, *]; done) | (simp [Act.eval, *]; unfold wrap64; omega)) ?_; (with_reducible refine (xansi_DeleteCharacter.calls a1 t156 _ ?side1 A55.out).mono ?_); (case side1 => exact HLD.out.below (by repeat (first | (with_reducible first | exact HB.out | apply below_alloc | apply Go.Proofs.YtplmmblofhhikaaDoor.Ext.below_bytes | apply pw_below_drewN | apply below_drew1) | exact HB.out))); rintro e w56 ⟨rfl, hb⟩; refine ⟨_, rfl, ?_⟩; have n0_ := Aside0.mk (below_step (by repeat (first | (with_reducible first | exact HB.out | apply below_alloc | apply Go.Proofs.YtplmmblofhhikaaDoor.Ext.below_bytes | apply pw_below_drewN | apply below_drew1) | exact HB.out)) hb); clear HB; have HB := n0_; clear n0_; (try clear hb); (try clear hb2); (try clear hk); (try clear hi)))
                                      go_ret
                                      exact ⟨by first | rfl | (simp [errW_none, errW_some] <;> rfl) | (simp [*, errW_none, errW_some] <;> rfl), by repeat (first | (with_reducible first | exact HB.out | apply below_alloc | apply Go.Proofs.YtplmmblofhhikaaDoor.Ext.below_bytes | apply pw_below_drewN | apply below_drew1) | exact HB.out)⟩
                                    · rw [if_neg c54] at H
                                      have c54b0 : (a0 == 17) = false := beq_eq_false_iff_ne.mpr c54
                                      have c54b1 : (a0 != 17) = true := bne_iff_ne.mpr c54
                                      by_cases c57 : a0 = 18
                                      · rw [if_pos c57] at H
                                        have c57b0 : (a0 == 18) = true := beq_iff_eq.mpr c57
                                        have c57b1 : (a0 != 18) = false := bne_eq_false_iff_eq.mpr c57
                                        clear c57
                                        replace H := Option.bind_eq_some_iff.mp H
                                        obtain ⟨t157, A580, H⟩ := H
                                        replace H : (some t157) = some r := H
                                        have A58 := Aside0.mk A580
                                        clear A580
                                        obtain rfl := Option.some.inj H
                                        go_enter Tryd.func16, Tryd.ntmps16
                                        go_wp2_with (first | ((with_reducible refine gate_callee (f := 55) rfl ?_); refine goesL_ (some 83) rfl rfl Tryd.func55 (by kernel_rfl) rfl #[.int .i64 a1] rfl (by (try simp only [List.map_toArray, List.map_cons, List.map_nil]); first | done | rfl | (simp only [List.length_drop, List.length_take]; rfl) | (simp [Act.eval, *]; done) | (simp [Act.eval, *]; unfold wrap64; omega)) ?_; (with_reducible refine (xansi_VerticalPositionAbsolute.calls a1 t157 _ ?side1 A58.out).mono ?_); (case side1 => exact HLD.out.below (by repeat (first | (with_reducible first | exact HB.out | apply below_alloc | apply Go.Proofs.YtplmmblofhhikaaDoor.Ext.below_bytes | apply pw_below_drewN | apply below_drew1) | exact HB.out))); rintro e w59 ⟨rfl, hb⟩; refine ⟨_, rfl, ?_⟩; have n0_ := Aside0.mk (below_step (by repeat (first | (with_reducible first | exact HB.out | apply below_alloc | apply Go.Proofs.YtplmmblofhhikaaDoor.Ext.below_bytes | apply pw_below_drewN | apply below_drew1) | exact HB.out)) hb); clear HB; have HB := n0_; clear n0_; (try clear hb); (try clear hb2); (try clear hk); (try clear hi)))
                                        go_ret
                                        exact ⟨by first | rfl | (simp [errW_none, errW_some] <;> rfl) | (simp [*, errW_none, errW_some] <;> rfl), by repeat (first | (with_reducible first | exact HB.out | apply below_alloc | apply Go.Proofs.YtplmmblofhhikaaDoor.Ext.below_bytes | apply pw_below_drewN | apply below_drew1) | exact HB.out)⟩
                                      · rw [if_neg c57] at H
                                        have c57b0 : (a0 == 18) = false := beq_eq_false_iff_ne.mpr c57
                                        have c57b1 : (a0 != 18) = true := bne_iff_ne.mpr c57
                                        by_cases c60 : a0 = 19
                                        · rw [if_pos c60] at H
                                          have c60b0 : (a0 == 19) = true := beq_iff_eq.mpr c60
                                          have c60b1 : (a0 != 19) = false := bne_eq_false_iff_eq.mpr c60
                                          clear c60
                                          replace H := Option.bind_eq_some_iff.mp H
                                          obtain ⟨t158, A610, H⟩ := H
                                          replace H : (some t158) = some r := H
                                          have A61 := Aside0.mk A610
                                          clear A610
                                          obtain rfl := Option.some.inj H
                                          go_enter Tryd.func16, Tryd.ntmps16
                                          go_wp2_with (first | ((with_reducible refine gate_callee (f := 56) rfl ?_); refine goesL_ (some 87) rfl rfl Tryd.func56 (by kernel_rfl) rfl #[.int .i64 a1] rfl (by (try simp only [List.map_toArray, List.map_cons, List.map_nil]); first | done | rfl | (simp only [List.length_drop, List.length_take]; rfl) | (simp [Act.eval, *]; done) | (simp [Act.eval, *]; unfold wrap64; omega)) ?_; (with_reducible refine (xansi_VerticalPositionRelative.calls a1 t158 _ ?side1 A61.out).mono ?_); (case side1 => exact HLD.out.below (by repeat (first | (with_reducible first | exact HB.out | apply below_alloc | apply Go.Proofs.YtplmmblofhhikaaDoor.Ext.below_bytes | apply pw_below_drewN | apply below_drew1) | exact HB.out))); rintro e w62 ⟨rfl, hb⟩; refine ⟨_, rfl, ?_⟩; have n0_ := Aside0.mk (below_step (by repeat (first | (with_reducible first | exact HB.out | apply below_alloc | apply Go.Proofs.YtplmmblofhhikaaDoor.Ext.below_bytes | apply pw_below_drewN | apply below_drew1) | exact HB.out)) hb); clear HB; have HB := n0_; clear n0_; (try clear hb); (try clear hb2); (try clear hk); (try clear hi)))
                                          go_ret
                                          exact ⟨by first | rfl | (simp [errW_none, errW_some] <;> rfl) | (simp [*, errW_none, errW_some] <;> rfl), by repeat (first | (with_reducible first | exact HB.out | apply below_alloc | apply Go.Proofs.YtplmmblofhhikaaDoor.Ext.below_bytes | apply pw_below_drewN | apply below_drew1) | exact HB.out)⟩
                                        · rw [if_neg c60] at H
                                          have c60b0 : (a0 == 19) = false := beq_eq_false_iff_ne.mpr c60
                                          have c60b1 : (a0 != 19) = true := bne_iff_ne.mpr c60
                                          by_cases c63 : a0 = 20
                                          · rw [if_pos c63] at H
                                            have c63b0 : (a0 == 20) = true := beq_iff_eq.mpr c63
                                            have c63b1 : (a0 != 20) = false := bne_eq_false_iff_eq.mpr c63
                                            clear c63
                                            replace H := Option.bind_eq_some_iff.mp H
                                            obtain ⟨t159, A640, H⟩ := H
                                            replace H : (some t159) = some r := H
                                            have A64 := Aside0.mk A640
                                            clear A640
                                            obtain rfl := Option.some.inj H
                                            go_enter Tryd.func16, Tryd.ntmps16
                                            go_wp2_with (first | ((with_reducible refine gate_callee (f := 57) rfl ?_); refine goesL_ (some 91) rfl rfl Tryd.func57 (by kernel_rfl) rfl #[.int .i64 a1] rfl (by (try simp only [List.map_toArray, List.map_cons, List.map_nil]); first | done | rfl | (simp only [List.length_drop, List.length_take]; rfl) | (simp [Act.eval, *]; done) | (simp [Act.eval, *]; unfold wrap64; omega)) ?_; (with_reducible refine (xansi_HorizontalPositionAbsolute.calls a1 t159 _ ?side1 A64.out).mono ?_); (case side1 => exact HLD.out.below (by repeat (first | (with_reducible first | exact HB.out | apply below_alloc | apply Go.Proofs.YtplmmblofhhikaaDoor.Ext.below_bytes | apply pw_below_drewN | apply below_drew1) | exact HB.out))); rintro e w65 ⟨rfl, hb⟩; refine ⟨_, rfl, ?_⟩; have n0_ := Aside0.mk (below_step (by repeat (first | (with_reducible first | exact HB.out | apply below_alloc | apply Go.Proofs.YtplmmblofhhikaaDoor.Ext.below_bytes | apply pw_below_drewN | apply below_drew1) | exact HB.out)) hb); clear HB; have HB := n0_; clear n0_; (try clear hb); (try clear hb2); (try clear hk); (try clear hi)))
                                            go_ret
                                            exact ⟨by first | rfl | (simp [errW_none, errW_some] <;> rfl) | (simp [*, errW_none, errW_some] <;> rfl), by repeat (first | (with_reducible first | exact HB.out | apply below_alloc | apply Go.Proofs.YtplmmblofhhikaaDoor.Ext.below_bytes | apply pw_below_drewN | apply below_drew1) | exact HB.out)⟩
                                          · rw [if_neg c63] at H
                                            have c63b0 : (a0 == 20) = false := beq_eq_false_iff_ne.mpr c63
                                            have c63b1 : (a0 != 20) = true := bne_iff_ne.mpr c63
                                            by_cases c66 : a0 = 21
                                            · rw [if_pos c66] at H
                                              have c66b0 : (a0 == 21) = true := beq_iff_eq.mpr c66
                                              have c66b1 : (a0 != 21) = false := bne_eq_false_iff_eq.mpr c66
                                              clear c66
                                              replace H := Option.bind_eq_some_iff.mp H
                                              obtain ⟨t160, A670, H⟩ := H
                                              replace H : (some t160) = some r := H
                                              have A67 := Aside0.mk A670
                                              clear A670
                                              obtain rfl := Option.some.inj H
                                              go_enter Tryd.func16, Tryd.ntmps16
                                              go_wp2_with (first | ((with_reducible refine gate_callee (f := 58) rfl ?_); refine goesL_ (some 95) rfl rfl Tryd.func58 (by kernel_rfl) rfl #[.int .i64 a1] rfl (by (try simp only [List.map_toArray, List.map_cons, List.map_nil]); first | done | rfl | (simp only [List.length_drop, List.length_take]; rfl) | (simp [Act.eval, *]; done) | (simp [Act.eval, *]; unfold wrap64; omega)) ?_; (with_reducible refine (xansi_HorizontalPositionRelative.calls a1 t160 _ ?side1 A67.out).mono ?_); (case side1 => exact HLD.out.below (by repeat (first | (with_reducible first | exact HB.out | apply below_alloc | apply Go.Proofs.YtplmmblofhhikaaDoor.Ext.below_bytes | apply pw_below_drewN | apply below_drew1) | exact HB.out))); rintro e w68 ⟨rfl, hb⟩; refine ⟨_, rfl, ?_⟩; have n0_ := Aside0.mk (below_step (by repeat (first | (with_reducible first | exact HB.out | apply below_alloc | apply Go.Proofs.YtplmmblofhhikaaDoor.Ext.below_bytes | apply pw_below_drewN | apply below_drew1) | exact HB.out)) hb); clear HB; have HB := n0_; clear n0_; (try clear hb); (try clear hb2); (try clear hk); (try clear hi)))
                                              go_ret
                                              exact ⟨by first | rfl | (simp [errW_none, errW_some] <;> rfl) | (simp [*, errW_none, errW_some] <;> rfl), by repeat (first | (with_reducible first | exact HB.out | apply below_alloc | apply Go.Proofs.YtplmmblofhhikaaDoor.Ext.below_bytes | apply pw_below_drewN | apply below_drew1) | exact HB.out)⟩
                                            · rw [if_neg c66] at H
                                              have c66b0 : (a0 == 21) = false := beq_eq_false_iff_ne.mpr c66
                                              have c66b1 : (a0 != 21) = true := bne_iff_ne.mpr c66
                                              by_cases c69 : a0 = 22
                                              · rw [if_pos c69] at H
                                                have c69b0 : (a0 == 22) = true := beq_iff_eq.mpr c69
                                                have c69b1 : (a0 != 22) = false := bne_eq_false_iff_eq.mpr c69
                                                clear c69
                                                replace H := Option.bind_eq_some_iff.mp H
                                                obtain ⟨t161, A700, H⟩ := H
                                                replace H : (some t161) = some r := H
                                                have A70 := Aside0.mk A700
                                                clear A700
                                                obtain rfl := Option.some.inj H
                                                go_enter Tryd.func16, Tryd.ntmps16
                                                go_wp2_with (first | ((with_reducible refine gate_callee (f := 59) rfl ?_); refine goesL_ (some 99) rfl rfl Tryd.func59 (by kernel_rfl) rfl #[.int .i64 a1] rfl (by (try simp only [List.map_toArray, List.map_cons, List.map_nil]); first | done | rfl | (simp only [List.length_drop, List.length_take]; rfl) | (simp [Act.eval, *]; done) | (simp [Act.eval, *]; unfold wrap64; omega)) ?_; (with_reducible refine (xansi_RepeatPreviousCharacter.calls a1 t161 _ ?side1 A70.out).mono ?_); (case side1 => exact HLD.out.below (by repeat (first | (with_reducible first | exact HB.out | apply below_alloc | apply Go.Proofs.YtplmmblofhhikaaDoor.Ext.below_bytes | apply pw_below_drewN | apply below_drew1) | exact HB.out))); rintro e w71 ⟨rfl, hb⟩; refine ⟨_, rfl, ?_⟩; have n0_ := Aside0.mk (below_step (by repeat (first | (with_reducible first | exact HB.out | apply below_alloc | apply Go.Proofs.YtplmmblofhhikaaDoor.Ext.below_bytes | apply pw_below_drewN | apply below_drew1) | exact HB.out)) hb); clear HB; have HB := n0_; clear n0_; (try clear hb); (try clear hb2); (try clear hk); (try clear hi)))
                                                go_ret
                                                exact ⟨by first | rfl | (simp [errW_none, errW_some] <;> rfl) | (simp [*, errW_none, errW_some] <;> rfl), by repeat (first | (with_reducible first | exact HB.out | apply below_alloc | apply Go.Proofs.YtplmmblofhhikaaDoor.Ext.below_bytes | apply pw_below_drewN | apply below_drew1) | exact HB.out)⟩
                                              · rw [if_neg c69] at H
                                                have c69b0 : (a0 == 22) = false := beq_eq_false_iff_ne.mpr c69
                                                have c69b1 : (a0 != 22) = true := bne_iff_ne.mpr c69
                                                by_cases c72 : a0 = 23
                                                · rw [if_pos c72] at H
                                                  have c72b0 : (a0 == 23) = true := beq_iff_eq.mpr c72
                                                  have c72b1 : (a0 != 23) = false := bne_eq_false_iff_eq.mpr c72
                                                  clear c72
                                                  replace H := Option.bind_eq_some_iff.mp H
                                                  obtain ⟨t162, A730, H⟩ := H
                                                  replace H : (some t162) = some r := H
                                                  have A73 := Aside0.mk A730
                                                  clear A730
                                                  obtain rfl := Option.some.inj H
                                                  go_enter Tryd.func16, Tryd.ntmps16
                                                  go_wp2_with (first | ((with_reducible refine gate_callee (f := 60) rfl ?_); refine goesL_ (some 103) rfl rfl Tryd.func60 (by kernel_rfl) rfl #[.int .i64 a1] rfl (by (try simp only [List.map_toArray, List.map_cons, List.map_nil]); first | done | rfl | (simp only [List.length_drop, List.length_take]; rfl) | (simp [Act.eval, *]; done) | (simp [Act.eval, *]; unfold wrap64; omega)) ?_; (with_reducible refine (xansi_SetCursorStyle.calls k a1 t162 _ ?side1 A73.out).mono ?_); (case side1 => exact HLD.out.below (by repeat (first | (with_reducible first | exact HB.out | apply below_alloc | apply Go.Proofs.YtplmmblofhhikaaDoor.Ext.below_bytes | apply pw_below_drewN | apply below_drew1) | exact HB.out))); rintro e w74 ⟨rfl, hb⟩; refine ⟨_, rfl, ?_⟩; have n0_ := Aside0.mk (below_step (by repeat (first | (with_reducible first | exact HB.out | apply below_alloc | apply Go.Proofs.YtplmmblofhhikaaDoor.Ext.below_bytes | apply pw_below_drewN | apply below_drew1) | exact HB.out)) hb); clear HB; have HB := n0_; clear n0_; (try clear hb); (try clear hb2); (try clear hk); (try clear hi)))
                                                  go_ret
                                                  exact ⟨by first | rfl | (simp [errW_none, errW_some] <;> rfl) | (simp [*, errW_none, errW_some] <;> rfl), by repeat (first | (with_reducible first | exact HB.out | apply below_alloc | apply Go.Proofs.YtplmmblofhhikaaDoor.Ext.below_bytes | apply pw_below_drewN | apply below_drew1) | exact HB.out)⟩
                                                · rw [if_neg c72] at H
                                                  have c72b0 : (a0 == 23) = false := beq_eq_false_iff_ne.mpr c72
                                                  have c72b1 : (a0 != 23) = true := bne_iff_ne.mpr c72
                                                  by_cases c75 : a0 = 24
                                                  · rw [if_pos c75] at H
                                                    have c75b0 : (a0 == 24) = true := beq_iff_eq.mpr c75
                                                    have c75b1 : (a0 != 24) = false := bne_eq_false_iff_eq.mpr c75
                                                    clear c75
                                                    replace H := Option.bind_eq_some_iff.mp H
                                                    obtain ⟨t163, A760, H⟩ := H
                                                    replace H : (some t163) = some r := H
                                                    have A76 := Aside0.mk A760
                                                    clear A760
                                                    obtain rfl := Option.some.inj H
                                                    go_enter Tryd.func16, Tryd.ntmps16
                                                    go_wp2_with (first | ((with_reducible refine gate_callee (f := 61) rfl ?_); refine goesL_ (some 107) rfl rfl Tryd.func61 (by kernel_rfl) rfl #[.int .i64 a1] rfl (by (try simp only [List.map_toArray, List.map_cons, List.map_nil]); first | done | rfl | (simp only [List.length_drop, List.length_take]; rfl) | (simp [Act.eval, *]; done) | (simp [Act.eval, *]; unfold wrap64; omega)) ?_; (with_reducible refine (xansi_TabClear.calls a1 t163 _ ?side1 A76.out).mono ?_); (case side1 => exact HLD.out.below (by repeat (first | (with_reducible first | exact HB.out | apply below_alloc | apply Go.Proofs.YtplmmblofhhikaaDoor.Ext.below_bytes | apply pw_below_drewN | apply below_drew1) | exact HB.out))); rintro e w77 ⟨rfl, hb⟩; refine ⟨_, rfl, ?_⟩; have n0_ := Aside0.mk (below_step (by repeat (first | (with_reducible first | exact HB.out | apply below_alloc | apply Go.Proofs.YtplmmblofhhikaaDoor.Ext.below_bytes | apply pw_below_drewN | apply below_drew1) | exact HB.out)) hb); clear HB; have HB := n0_; clear n0_; (try clear hb); (try clear hb2); (try clear hk); (try clear hi)))
                                                    go_ret
                                                    exact ⟨by first | rfl | (simp [errW_none, errW_some] <;> rfl) | (simp [*, errW_none, errW_some] <;> rfl), by repeat (first | (with_reducible first | exact HB.out | apply below_alloc | apply Go.Proofs.YtplmmblofhhikaaDoor.Ext.below_bytes | apply pw_below_drewN | apply below_drew1) | exact HB.out)⟩
                                                  · rw [if_neg c75] at H
                                                    have c75b0 : (a0 == 24) = false := beq_eq_false_iff_ne.mpr c75
                                                    have c75b1 : (a0 != 24) = true := bne_iff_ne.mpr c75
                                                    by_cases c78 : a0 = 25
                                                    · rw [if_pos c78] at H
                                                      have c78b0 : (a0 == 25) = true := beq_iff_eq.mpr c78
                                                      have c78b1 : (a0 != 25) = false := bne_eq_false_iff_eq.mpr c78
                                                      clear c78
                                                      replace H := Option.bind_eq_some_iff.mp H
                                                      obtain ⟨t164, A790, H⟩ := H
                                                      replace H : (some t164) = some r := H
                                                      have A79 := Aside0.mk A790
                                                      clear A790
                                                      obtain rfl := Option.some.inj H
                                                      go_enter Tryd.func16, Tryd.ntmps16
                                                      go_wp2_with (first | ((with_reducible refine gate_callee (f := 62) rfl ?_); refine goesL_ (some 111) rfl rfl Tryd.func62 (by kernel_rfl) rfl #[.int .i64 a1] rfl (by (try simp only [List.map_toArray, List.map_cons, List.map_nil]); first | done | rfl | (simp only [List.length_drop, List.length_take]; rfl) | (simp [Act.eval, *]; done) | (simp [Act.eval, *]; unfold wrap64; omega)) ?_; (with_reducible refine (xansi_RequestPresentationStateReport.calls a1 t164 _ ?side1 A79.out).mono ?_); (case side1 => exact HLD.out.below (by repeat (first | (with_reducible first | exact HB.out | apply below_alloc | apply Go.Proofs.YtplmmblofhhikaaDoor.Ext.below_bytes | apply pw_below_drewN | apply below_drew1) | exact HB.out))); rintro e w80 ⟨rfl, hb⟩; refine ⟨_, rfl, ?_⟩; have n0_ := Aside0.mk (below_step (by repeat (first | (with_reducible first | exact HB.out | apply below_alloc | apply Go.Proofs.YtplmmblofhhikaaDoor.Ext.below_bytes | apply pw_below_drewN | apply below_drew1) | exact HB.out)) hb); clear HB; have HB := n0_; clear n0_; (try clear hb); (try clear hb2); (try clear hk); (try clear hi)))
                                                      go_ret
                                                      exact ⟨by first | rfl | (simp [errW_none, errW_some] <;> rfl) | (simp [*, errW_none, errW_some] <;> rfl), by repeat (first | (with_reducible first | exact HB.out | apply below_alloc | apply Go.Proofs.YtplmmblofhhikaaDoor.Ext.below_bytes | apply pw_below_drewN | apply below_drew1) | exact HB.out)⟩
                                                    · rw [if_neg c78] at H
                                                      have c78b0 : (a0 == 25) = false := beq_eq_false_iff_ne.mpr c78
                                                      have c78b1 : (a0 != 25) = true := bne_iff_ne.mpr c78
                                                      by_cases c81 : a0 = 26
                                                      · rw [if_pos c81] at H
                                                        have c81b0 : (a0 == 26) = true := beq_iff_eq.mpr c81
                                                        have c81b1 : (a0 != 26) = false := bne_eq_false_iff_eq.mpr c81
                                                        clear c81
                                                        replace H := Option.bind_eq_some_iff.mp H
                                                        obtain ⟨t165, A820, H⟩ := H
                                                        replace H : (some t165) = some r := H
                                                        have A82 := Aside0.mk A820
                                                        clear A820
                                                        obtain rfl := Option.some.inj H
                                                        go_enter Tryd.func16, Tryd.ntmps16
                                                        go_wp2_with (first | ((with_reducible refine gate_callee (f := 63) rfl ?_); refine goesL_ (some 115) rfl rfl Tryd.func63 (by kernel_rfl) rfl #[.int .i64 a1] rfl (by (try simp only [List.map_toArray, List.map_cons, List.map_nil]); first | done | rfl | (simp only [List.length_drop, List.length_take]; rfl) | (simp [Act.eval, *]; done) | (simp [Act.eval, *]; unfold wrap64; omega)) ?_; (with_reducible refine (xansi_PushKittyKeyboard.calls a1 t165 _ ?side1 A82.out).mono ?_); (case side1 => exact HLD.out.below (by repeat (first | (with_reducible first | exact HB.out | apply below_alloc | apply Go.Proofs.YtplmmblofhhikaaDoor.Ext.below_bytes | apply pw_below_drewN | apply below_drew1) | exact HB.out))); rintro e w83 ⟨rfl, hb⟩; refine ⟨_, rfl, ?_⟩; have n0_ := Aside0.mk (below_step (by repeat (first | (with_reducible first | exact HB.out | apply below_alloc | apply Go.Proofs.YtplmmblofhhikaaDoor.Ext.below_bytes | apply pw_below_drewN | apply below_drew1) | exact HB.out)) hb); clear HB; have HB := n0_; clear n0_; (try clear hb); (try clear hb2); (try clear hk); (try clear hi)))
                                                        go_ret
                                                        exact ⟨by first | rfl | (simp [errW_none, errW_some] <;> rfl) | (simp [*, errW_none, errW_some] <;> rfl), by repeat (first | (with_reducible first | exact HB.out | apply below_alloc | apply Go.Proofs.YtplmmblofhhikaaDoor.Ext.below_bytes | apply pw_below_drewN | apply below_drew1) | exact HB.out)⟩
                                                      · rw [if_neg c81] at H
                                                        have c81b0 : (a0 == 26) = false := beq_eq_false_iff_ne.mpr c81
                                                        have c81b1 : (a0 != 26) = true := bne_iff_ne.mpr c81
                                                        by_cases c84 : a0 = 27
                                                        · rw [if_pos c84] at H
                                                          have c84b0 : (a0 == 27) = true := beq_iff_eq.mpr c84
                                                          have c84b1 : (a0 != 27) = false := bne_eq_false_iff_eq.mpr c84
                                                          clear c84
                                                          replace H := Option.bind_eq_some_iff.mp H
                                                          obtain ⟨t166, A850, H⟩ := H
                                                          replace H : (some t166) = some r := H
                                                          have A85 := Aside0.mk A850
                                                          clear A850
                                                          obtain rfl := Option.some.inj H
                                                          go_enter Tryd.func16, Tryd.ntmps16
                                                          go_wp2_with (first | ((with_reducible refine gate_callee (f := 64) rfl ?_); refine goesL_ (some 119) rfl rfl Tryd.func64 (by kernel_rfl) rfl #[.int .i64 a1] rfl (by (try simp only [List.map_toArray, List.map_cons, List.map_nil]); first | done | rfl | (simp only [List.length_drop, List.length_take]; rfl) | (simp [Act.eval, *]; done) | (simp [Act.eval, *]; unfold wrap64; omega)) ?_; (with_reducible refine (xansi_PopKittyKeyboard.calls a1 t166 _ ?side1 A85.out).mono ?_); (case side1 => exact HLD.out.below (by repeat (first | (with_reducible first | exact HB.out | apply below_alloc | apply Go.Proofs.YtplmmblofhhikaaDoor.Ext.below_bytes | apply pw_below_drewN | apply below_drew1) | exact HB.out))); rintro e w86 ⟨rfl, hb⟩; refine ⟨_, rfl, ?_⟩; have n0_ := Aside0.mk (below_step (by repeat (first | (with_reducible first | exact HB.out | apply below_alloc | apply Go.Proofs.YtplmmblofhhikaaDoor.Ext.below_bytes | apply pw_below_drewN | apply below_drew1) | exact HB.out)) hb); clear HB; have HB := n0_; clear n0_; (try clear hb); (try clear hb2); (try clear hk); (try clear hi)))
                                                          go_ret
                                                          exact ⟨by first | rfl | (simp [errW_none, errW_some] <;> rfl) | (simp [*, errW_none, errW_some] <;> rfl), by repeat (first | (with_reducible first | exact HB.out | apply below_alloc | apply Go.Proofs.YtplmmblofhhikaaDoor.Ext.below_bytes | apply pw_below_drewN | apply below_drew1) | exact HB.out)⟩
                                                        · rw [if_neg c84] at H
                                                          have c84b0 : (a0 == 27) = false := beq_eq_false_iff_ne.mpr c84
                                                          have c84b1 : (a0 != 27) = true := bne_iff_ne.mpr c84
                                                          by_cases c87 : a0 = 28
                                                          · rw [if_pos c87] at H
                                                            have c87b0 : (a0 == 28) = true := beq_iff_eq.mpr c87
                                                            have c87b1 : (a0 != 28) = false := bne_eq_false_iff_eq.mpr c87
                                                            clear c87
                                                            replace H := Option.bind_eq_some_iff.mp H
                                                            obtain ⟨t167, A880, H⟩ := H
                                                            replace H : (some t167) = some r := H
                                                            have A88 := Aside0.mk A880
                                                            clear A880
                                                            obtain rfl := Option.some.inj H
                                                            go_enter Tryd.func16, Tryd.ntmps16
                                                            go_wp2_with (first | ((with_reducible refine gate_callee (f := 65) rfl ?_); refine goesL_ (some 123) rfl rfl Tryd.func65 (by kernel_rfl) rfl #[.int .i64 a1] rfl (by (try simp only [List.map_toArray, List.map_cons, List.map_nil]); first | done | rfl | (simp only [List.length_drop, List.length_take]; rfl) | (simp [Act.eval, *]; done) | (simp [Act.eval, *]; unfold wrap64; omega)) ?_; (with_reducible refine (xansi_QueryKeyModifierOptions.calls a1 t167 _ ?side1 A88.out).mono ?_); (case side1 => exact HLD.out.below (by repeat (first | (with_reducible first | exact HB.out | apply below_alloc | apply Go.Proofs.YtplmmblofhhikaaDoor.Ext.below_bytes | apply pw_below_drewN | apply below_drew1) | exact HB.out))); rintro e w89 ⟨rfl, hb⟩; refine ⟨_, rfl, ?_⟩; have n0_ := Aside0.mk (below_step (by repeat (first | (with_reducible first | exact HB.out | apply below_alloc | apply Go.Proofs.YtplmmblofhhikaaDoor.Ext.below_bytes | apply pw_below_drewN | apply below_drew1) | exact HB.out)) hb); clear HB; have HB := n0_; clear n0_; (try clear hb); (try clear hb2); (try clear hk); (try clear hi)))
                                                            go_ret
                                                            exact ⟨by first | rfl | (simp [errW_none, errW_some] <;> rfl) | (simp [*, errW_none, errW_some] <;> rfl), by repeat (first | (with_reducible first | exact HB.out | apply below_alloc | apply Go.Proofs.YtplmmblofhhikaaDoor.Ext.below_bytes | apply pw_below_drewN | apply below_drew1) | exact HB.out)⟩
                                                          · rw [if_neg c87] at H
                                                            have c87b0 : (a0 == 28) = false := beq_eq_false_iff_ne.mpr c87
                                                            have c87b1 : (a0 != 28) = true := bne_iff_ne.mpr c87
                                                            by_cases c90 : a0 = 29
                                                            · rw [if_pos c90] at H
                                                              have c90b0 : (a0 == 29) = true := beq_iff_eq.mpr c90
                                                              have c90b1 : (a0 != 29) = false := bne_eq_false_iff_eq.mpr c90
                                                              clear c90
                                                              replace H := Option.bind_eq_some_iff.mp H
                                                              obtain ⟨t168, A910, H⟩ := H
                                                              replace H : (some t168) = some r := H
                                                              have A91 := Aside0.mk A910
                                                              clear A910
                                                              obtain rfl := Option.some.inj H
                                                              go_enter Tryd.func16, Tryd.ntmps16
                                                              go_wp2_with (first | ((with_reducible refine gate_callee (f := 66) rfl ?_); refine goesL_ (some 127) rfl rfl Tryd.func66 (by kernel_rfl) rfl #[.int .i64 a1] rfl (by (try simp only [List.map_toArray, List.map_cons, List.map_nil]); first | done | rfl | (simp only [List.length_drop, List.length_take]; rfl) | (simp [Act.eval, *]; done) | (simp [Act.eval, *]; unfold wrap64; omega)) ?_; (with_reducible refine (xansi_ResetKeyModifierOptions.calls k a1 t168 _ ?side1 A91.out).mono ?_); (case side1 => exact HLD.out.below (by repeat (first | (with_reducible first | exact HB.out | apply below_alloc | apply Go.Proofs.YtplmmblofhhikaaDoor.Ext.below_bytes | apply pw_below_drewN | apply below_drew1) | exact HB.out))); rintro e w92 ⟨rfl, hb⟩; refine ⟨_, rfl, ?_⟩; have n0_ := Aside0.mk (below_step (by repeat (first | (with_reducible first | exact HB.out | apply below_alloc | apply Go.Proofs.YtplmmblofhhikaaDoor.Ext.below_bytes | apply pw_below_drewN | apply below_drew1) | exact HB.out)) hb); clear HB; have HB := n0_; clear n0_; (try clear hb); (try clear hb2); (try clear hk); (try clear hi)))
                                                              go_ret
                                                              exact ⟨by first | rfl | (simp [errW_none, errW_some] <;> rfl) | (simp [*, errW_none, errW_some] <;> rfl), by repeat (first | (with_reducible first | exact HB.out | apply below_alloc | apply Go.Proofs.YtplmmblofhhikaaDoor.Ext.below_bytes | apply pw_below_drewN | apply below_drew1) | exact HB.out)⟩
                                                            · rw [if_neg c90] at H
                                                              have c90b0 : (a0 == 29) = false := beq_eq_false_iff_ne.mpr c90
                                                              have c90b1 : (a0 != 29) = true := bne_iff_ne.mpr c90
                                                              by_cases c93 : a0 = 30
                                                              · rw [if_pos c93] at H
                                                                have c93b0 : (a0 == 30) = true := beq_iff_eq.mpr c93
                                                                have c93b1 : (a0 != 30) = false := bne_eq_false_iff_eq.mpr c93
                                                                clear c93
                                                                replace H := Option.bind_eq_some_iff.mp H
                                                                obtain ⟨t169, A940, H⟩ := H
                                                                replace H : (some t169) = some r := H
                                                                have A94 := Aside0.mk A940
                                                                clear A940
                                                                obtain rfl := Option.some.inj H
                                                                go_enter Tryd.func16, Tryd.ntmps16
                                                                go_wp2_with (first | ((with_reducible refine gate_callee (f := 67) rfl ?_); refine goesL_ (some 131) rfl rfl Tryd.func67 (by kernel_rfl) rfl #[.int .i64 a1] rfl (by (try simp only [List.map_toArray, List.map_cons, List.map_nil]); first | done | rfl | (simp only [List.length_drop, List.length_take]; rfl) | (simp [Act.eval, *]; done) | (simp [Act.eval, *]; unfold wrap64; omega)) ?_; (with_reducible refine (xansi_ModifyOtherKeys.calls a1 t169 _ ?side1 A94.out).mono ?_); (case side1 => exact HLD.out.below (by repeat (first | (with_reducible first | exact HB.out | apply below_alloc | apply Go.Proofs.YtplmmblofhhikaaDoor.Ext.below_bytes | apply pw_below_drewN | apply below_drew1) | exact HB.out))); rintro e w95 ⟨rfl, hb⟩; refine ⟨_, rfl, ?_⟩; have n0_ := Aside0.mk (below_step (by repeat (first | (with_reducible first | exact HB.out | apply below_alloc | apply Go.Proofs.YtplmmblofhhikaaDoor.Ext.below_bytes | apply pw_below_drewN | apply below_drew1) | exact HB.out)) hb); clear HB; have HB := n0_; clear n0_; (try clear hb); (try clear hb2); (try clear hk); (try clear hi)))
                                                                go_ret
                                                                exact ⟨by first | rfl | (simp [errW_none, errW_some] <;> rfl) | (simp [*, errW_none, errW_some] <;> rfl), by repeat (first | (with_reducible first | exact HB.out | apply below_alloc | apply Go.Proofs.YtplmmblofhhikaaDoor.Ext.below_bytes | apply pw_below_drewN | apply below_drew1) | exact HB.out)⟩
                                                              · rw [if_neg c93] at H
                                                                have c93b0 : (a0 == 30) = false := beq_eq_false_iff_ne.mpr c93
                                                                have c93b1 : (a0 != 30) = true := bne_iff_ne.mpr c93
                                                                by_cases c96 : a0 = 31
                                                                · rw [if_pos c96] at H
                                                                  have c96b0 : (a0 == 31) = true := beq_iff_eq.mpr c96
                                                                  have c96b1 : (a0 != 31) = false := bne_eq_false_iff_eq.mpr c96
                                                                  clear c96
                                                                  replace H := Option.bind_eq_some_iff.mp H
                                                                  obtain ⟨t170, A970, H⟩ := H
                                                                  replace H : (some t170) = some r := H
                                                                  have A97 := Aside0.mk A970
                                                                  clear A970
                                                                  obtain rfl := Option.some.inj H
                                                                  go_enter Tryd.func16, Tryd.ntmps16
                                                                  go_wp2_with (first | ((with_reducible refine gate_callee (f := 68) rfl ?_); refine goesL_ (some 135) rfl rfl Tryd.func68 (by kernel_rfl) rfl #[.int .i64 a1] rfl (by (try simp only [List.map_toArray, List.map_cons, List.map_nil]); first | done | rfl | (simp only [List.length_drop, List.length_take]; rfl) | (simp [Act.eval, *]; done) | (simp [Act.eval, *]; unfold wrap64; omega)) ?_; (with_reducible refine (xansi_SetProgressBar.calls a1 t170 _ ?side1 A97.out).mono ?_); (case side1 => exact HLD.out.below (by repeat (first | (with_reducible first | exact HB.out | apply below_alloc | apply Go.Proofs.YtplmmblofhhikaaDoor.Ext.below_bytes | apply pw_below_drewN | apply below_drew1) | exact HB.out))); rintro e w98 ⟨rfl, hb⟩; refine ⟨_, rfl, ?_⟩; have n0_ := Aside0.mk (below_step (by repeat (first | (with_reducible first | exact HB.out | apply below_alloc | apply Go.Proofs.YtplmmblofhhikaaDoor.Ext.below_bytes | apply pw_below_drewN | apply below_drew1) | exact HB.out)) hb); clear HB; have HB := n0_; clear n0_; (try clear hb); (try clear hb2); (try clear hk); (try clear hi)))
                                                                  go_ret
                                                                  exact ⟨by first | rfl | (simp [errW_none, errW_some] <;> rfl) | (simp [*, errW_none, errW_some] <;> rfl), by repeat (first | (with_reducible first | exact HB.out | apply below_alloc | apply Go.Proofs.YtplmmblofhhikaaDoor.Ext.below_bytes | apply pw_below_drewN | apply below_drew1) | exact HB.out)⟩
                                                                · rw [if_neg c96] at H
                                                                  have c96b0 : (a0 == 31) = false := beq_eq_false_iff_ne.mpr c96
                                                                  have c96b1 : (a0 != 31) = true := bne_iff_ne.mpr c96
                                                                  by_cases c99 : a0 = 32
                                                                  · rw [if_pos c99] at H
                                                                    have c99b0 : (a0 == 32) = true := beq_iff_eq.mpr c99
                                                                    have c99b1 : (a0 != 32) = false := bne_eq_false_iff_eq.mpr c99
                                                                    clear c99
                                                                    replace H := Option.bind_eq_some_iff.mp H
                                                                    obtain ⟨t171, A1000, H⟩ := H
                                                                    replace H : (some t171) = some r := H
                                                                    have A100 := Aside0.mk A1000
                                                                    clear A1000
                                                                    obtain rfl := Option.some.inj H
                                                                    go_enter Tryd.func16, Tryd.ntmps16
                                                                    go_wp2_with (first | ((with_reducible refine gate_callee (f := 69) rfl ?_); refine goesL_ (some 139) rfl rfl Tryd.func69 (by kernel_rfl) rfl #[.int .i64 a1] rfl (by (try simp only [List.map_toArray, List.map_cons, List.map_nil]); first | done | rfl | (simp only [List.length_drop, List.length_take]; rfl) | (simp [Act.eval, *]; done) | (simp [Act.eval, *]; unfold wrap64; omega)) ?_; (with_reducible refine (xansi_SetErrorProgressBar.calls a1 t171 _ ?side1 A100.out).mono ?_); (case side1 => exact HLD.out.below (by repeat (first | (with_reducible first | exact HB.out | apply below_alloc | apply Go.Proofs.YtplmmblofhhikaaDoor.Ext.below_bytes | apply pw_below_drewN | apply below_drew1) | exact HB.out))); rintro e w101 ⟨rfl, hb⟩; refine ⟨_, rfl, ?_⟩; have n0_ := Aside0.mk (below_step (by repeat (first | (with_reducible first | exact HB.out | apply below_alloc | apply Go.Proofs.YtplmmblofhhikaaDoor.Ext.below_bytes | apply pw_below_drewN | apply below_drew1) | exact HB.out)) hb); clear HB; have HB := n0_; clear n0_; (try clear hb); (try clear hb2); (try clear hk); (try clear hi)))
                                                                    go_ret
                                                                    exact ⟨by first | rfl | (simp [errW_none, errW_some] <;> rfl) | (simp [*, errW_none, errW_some] <;> rfl), by repeat (first | (with_reducible first | exact HB.out | apply below_alloc | apply Go.Proofs.YtplmmblofhhikaaDoor.Ext.below_bytes | apply pw_below_drewN | apply below_drew1) | exact HB.out)⟩
                                                                  · rw [if_neg c99] at H
                                                                    have c99b0 : (a0 == 32) = false := beq_eq_false_iff_ne.mpr c99
                                                                    have c99b1 : (a0 != 32) = true := bne_iff_ne.mpr c99
                                                                    by_cases c102 : a0 = 33
                                                                    · rw [if_pos c102] at H
                                                                      have c102b0 : (a0 == 33) = true := beq_iff_eq.mpr c102
                                                                      have c102b1 : (a0 != 33) = false := bne_eq_false_iff_eq.mpr c102
                                                                      clear c102
                                                                      replace H := Option.bind_eq_some_iff.mp H
                                                                      obtain ⟨t172, A1030, H⟩ := H
                                                                      replace H : (some t172) = some r := H
                                                                      have A103 := Aside0.mk A1030
                                                                      clear A1030
                                                                      obtain rfl := Option.some.inj H
                                                                      go_enter Tryd.func16, Tryd.ntmps16
                                                                      go_wp2_with (first | ((with_reducible refine gate_callee (f := 70) rfl ?_); refine goesL_ (some 143) rfl rfl Tryd.func70 (by kernel_rfl) rfl #[.int .i64 a1] rfl (by (try simp only [List.map_toArray, List.map_cons, List.map_nil]); first | done | rfl | (simp only [List.length_drop, List.length_take]; rfl) | (simp [Act.eval, *]; done) | (simp [Act.eval, *]; unfold wrap64; omega)) ?_; (with_reducible refine (xansi_SetWarningProgressBar.calls a1 t172 _ ?side1 A103.out).mono ?_); (case side1 => exact HLD.out.below (by repeat (first | (with_reducible first | exact HB.out | apply below_alloc | apply Go.Proofs.YtplmmblofhhikaaDoor.Ext.below_bytes | apply pw_below_drewN | apply below_drew1) | exact HB.out))); rintro e w104 ⟨rfl, hb⟩; refine ⟨_, rfl, ?_⟩; have n0_ := Aside0.mk (below_step (by repeat (first | (with_reducible first | exact HB.out | apply below_alloc | apply Go.Proofs.YtplmmblofhhikaaDoor.Ext.below_bytes | apply pw_below_drewN | apply below_drew1) | exact HB.out)) hb); clear HB; have HB := n0_; clear n0_; (try clear hb); (try clear hb2); (try clear hk); (try clear hi)))
                                                                      go_ret
                                                                      exact ⟨by first | rfl | (simp [errW_none, errW_some] <;> rfl) | (simp [*, errW_none, errW_some] <;> rfl), by repeat (first | (with_reducible first | exact HB.out | apply below_alloc | apply Go.Proofs.YtplmmblofhhikaaDoor.Ext.below_bytes | apply pw_below_drewN | apply below_drew1) | exact HB.out)⟩
                                                                    · rw [if_neg c102] at H
                                                                      have c102b0 : (a0 == 33) = false := beq_eq_false_iff_ne.mpr c102
                                                                      have c102b1 : (a0 != 33) = true := bne_iff_ne.mpr c102
                                                                      obtain rfl := Option.some.inj H
                                                                      go_enter Tryd.func16, Tryd.ntmps16
                                                                      go_wp2
                                                                      go_ret
                                                                      exact ⟨by first | rfl | (simp [errW_none, errW_some] <;> rfl) | (simp [*, errW_none, errW_some] <;> rfl), by repeat (first | (with_reducible first | exact HB.out | apply below_alloc | apply Go.Proofs.YtplmmblofhhikaaDoor.Ext.below_bytes | apply pw_below_drewN | apply below_drew1) | exact HB.out)⟩

/-! ### laws_makeAwake: function 15 -/
def laws_makeAwake.f (k : Nat)  : Option (Bool) := (impl_MakeNumber.f k 0 2).bind fun t173 => (some (t173.toList == ([27, 91, 50, 65] : List UInt8)))
theorem laws_makeAwake.mono : ∀ k, LeO (laws_makeAwake.f k ) (laws_makeAwake.f (k + 1) ) := by
  intro  k
  unfold laws_makeAwake.f
  repeat' first
      | (with_reducible exact impl_MakeNumber.mono _ _ _)
      | (with_reducible exact LeO.refl _)
      | (with_reducible exact LeO.none _)
      | (with_reducible refine LeO.ite ?_ ?_)
      | (with_reducible refine LeO.bind ?_ (fun _ => ?_))
      | exact impl_MakeNumber.mono _ _ _
      | exact LeO.none _
      | refine LeO.ite ?_ ?_
      | refine LeO.bind ?_ (fun _ => ?_)
set_option maxHeartbeats 8000000 in
set_option maxRecDepth 100000 in
theorem laws_makeAwake.calls (k : Nat)  (r : Bool) (w : World) (hLD : Laid w) (h : laws_makeAwake.f k  = some r) :
    Calls Tryd.prog 15 #[] w fun e w' => e = .returned (.bool r) ∧ Below w.heap.size w w' := by
  have HLD := Aside0.mk hLD
  clear hLD
  have HB := Aside0.mk (Below.refl w.heap.size w)
  have H : ((impl_MakeNumber.f k 0 2).bind fun t173 => (some (t173.toList == ([27, 91, 50, 65] : List UInt8)))) = some r := h
  clear h
  replace H := Option.bind_eq_some_iff.mp H
  obtain ⟨t173, A10, H⟩ := H
  replace H : (some (t173.toList == ([27, 91, 50, 65] : List UInt8))) = some r := H
  have A1 := Aside0.mk A10
  clear A10
  obtain rfl := Option.some.inj H
  go_enter Tryd.func15, Tryd.ntmps15
  go_wp2_with (first | ((with_reducible refine gate_callee (f := 16) rfl ?_); refine goesL_ (some 1) rfl rfl Tryd.func16 (by kernel_rfl) rfl #[.int .i64 0, .int .i64 2] rfl (by (try simp only [List.map_toArray, List.map_cons, List.map_nil]); first | done | rfl | (simp only [List.length_drop, List.length_take]; rfl) | (simp [Act.eval, *]; done) | (simp [Act.eval, *]; unfold wrap64; omega)) ?_; (with_reducible refine (impl_MakeNumber.calls k 0 2 t173 _ ?side1 A1.out).mono ?_); (case side1 => exact HLD.out.below (by repeat (first | (with_reducible first | exact HB.out | apply below_alloc | apply Go.Proofs.YtplmmblofhhikaaDoor.Ext.below_bytes | apply pw_below_drewN | apply below_drew1) | exact HB.out))); rintro e w2 ⟨rfl, hb⟩; refine ⟨_, rfl, ?_⟩; have n0_ := Aside0.mk (below_step (by repeat (first | (with_reducible first | exact HB.out | apply below_alloc | apply Go.Proofs.YtplmmblofhhikaaDoor.Ext.below_bytes | apply pw_below_drewN | apply below_drew1) | exact HB.out)) hb); clear HB; have HB := n0_; clear n0_; (try clear hb); (try clear hb2); (try clear hk); (try clear hi)))
  go_ret
  exact ⟨by first | rfl | (simp [errW_none, errW_some] <;> rfl) | (simp [*, errW_none, errW_some] <;> rfl), by repeat (first | (with_reducible first | exact HB.out | apply below_alloc | apply Go.Proofs.YtplmmblofhhikaaDoor.Ext.below_bytes | apply pw_below_drewN | apply below_drew1) | exact HB.out)⟩

/-! ### spec_MadeOnes: function 18 -/
def spec_MadeOnes.f  : Option ((List (S28))) := some (([(⟨(⟨#[27, 91]⟩ : ByteArray), (⟨#[65]⟩ : ByteArray), 1⟩ : S28), (⟨(⟨#[27, 91]⟩ : ByteArray), (⟨#[66]⟩ : ByteArray), 1⟩ : S28), (⟨(⟨#[27, 91]⟩ : ByteArray), (⟨#[67]⟩ : ByteArray), 1⟩ : S28), (⟨(⟨#[27, 91]⟩ : ByteArray), (⟨#[68]⟩ : ByteArray), 1⟩ : S28), (⟨(⟨#[27, 91]⟩ : ByteArray), (⟨#[69]⟩ : ByteArray), 1⟩ : S28), (⟨(⟨#[27, 91]⟩ : ByteArray), (⟨#[70]⟩ : ByteArray), 1⟩ : S28), (⟨(⟨#[27, 91]⟩ : ByteArray), (⟨#[71]⟩ : ByteArray), 0⟩ : S28), (⟨(⟨#[27, 91]⟩ : ByteArray), (⟨#[73]⟩ : ByteArray), 1⟩ : S28), (⟨(⟨#[27, 91]⟩ : ByteArray), (⟨#[90]⟩ : ByteArray), 1⟩ : S28), (⟨(⟨#[27, 91]⟩ : ByteArray), (⟨#[88]⟩ : ByteArray), 1⟩ : S28), (⟨(⟨#[27, 91]⟩ : ByteArray), (⟨#[74]⟩ : ByteArray), 0⟩ : S28), (⟨(⟨#[27, 91]⟩ : ByteArray), (⟨#[75]⟩ : ByteArray), 0⟩ : S28), (⟨(⟨#[27, 91]⟩ : ByteArray), (⟨#[83]⟩ : ByteArray), 1⟩ : S28), (⟨(⟨#[27, 91]⟩ : ByteArray), (⟨#[84]⟩ : ByteArray), 1⟩ : S28), (⟨(⟨#[27, 91]⟩ : ByteArray), (⟨#[76]⟩ : ByteArray), 1⟩ : S28), (⟨(⟨#[27, 91]⟩ : ByteArray), (⟨#[77]⟩ : ByteArray), 1⟩ : S28), (⟨(⟨#[27, 91]⟩ : ByteArray), (⟨#[64]⟩ : ByteArray), 1⟩ : S28), (⟨(⟨#[27, 91]⟩ : ByteArray), (⟨#[80]⟩ : ByteArray), 1⟩ : S28), (⟨(⟨#[27, 91]⟩ : ByteArray), (⟨#[100]⟩ : ByteArray), 0⟩ : S28), (⟨(⟨#[27, 91]⟩ : ByteArray), (⟨#[101]⟩ : ByteArray), 1⟩ : S28), (⟨(⟨#[27, 91]⟩ : ByteArray), (⟨#[96]⟩ : ByteArray), 0⟩ : S28), (⟨(⟨#[27, 91]⟩ : ByteArray), (⟨#[97]⟩ : ByteArray), 0⟩ : S28), (⟨(⟨#[27, 91]⟩ : ByteArray), (⟨#[98]⟩ : ByteArray), 1⟩ : S28), (⟨(⟨#[]⟩ : ByteArray), (⟨#[]⟩ : ByteArray), 0⟩ : S28), (⟨(⟨#[27, 91]⟩ : ByteArray), (⟨#[103]⟩ : ByteArray), 0⟩ : S28), (⟨(⟨#[27, 91]⟩ : ByteArray), (⟨#[36, 119]⟩ : ByteArray), 0⟩ : S28), (⟨(⟨#[27, 91, 62]⟩ : ByteArray), (⟨#[117]⟩ : ByteArray), 0⟩ : S28), (⟨(⟨#[27, 91, 60]⟩ : ByteArray), (⟨#[117]⟩ : ByteArray), 0⟩ : S28), (⟨(⟨#[27, 91, 63]⟩ : ByteArray), (⟨#[109]⟩ : ByteArray), 0⟩ : S28)] : List (S28)))
set_option maxHeartbeats 8000000 in
set_option maxRecDepth 100000 in
theorem spec_MadeOnes.calls  (r : List (S28)) (w : World) (h : spec_MadeOnes.f  = some r) :
    Calls Tryd.prog 18 #[] w fun e w' => ∃ v0_ : Value, e = .returned (v0_) ∧ Kd.R k28 28 w' w.heap.size (fun _ => True) v0_ r ∧ Below w.heap.size w w' := by
  have hu28 := Tryd.underlying28
  have HB := Aside0.mk (Below.refl w.heap.size w)
  have H : (some (([(⟨(⟨#[27, 91]⟩ : ByteArray), (⟨#[65]⟩ : ByteArray), 1⟩ : S28), (⟨(⟨#[27, 91]⟩ : ByteArray), (⟨#[66]⟩ : ByteArray), 1⟩ : S28), (⟨(⟨#[27, 91]⟩ : ByteArray), (⟨#[67]⟩ : ByteArray), 1⟩ : S28), (⟨(⟨#[27, 91]⟩ : ByteArray), (⟨#[68]⟩ : ByteArray), 1⟩ : S28), (⟨(⟨#[27, 91]⟩ : ByteArray), (⟨#[69]⟩ : ByteArray), 1⟩ : S28), (⟨(⟨#[27, 91]⟩ : ByteArray), (⟨#[70]⟩ : ByteArray), 1⟩ : S28), (⟨(⟨#[27, 91]⟩ : ByteArray), (⟨#[71]⟩ : ByteArray), 0⟩ : S28), (⟨(⟨#[27, 91]⟩ : ByteArray), (⟨#[73]⟩ : ByteArray), 1⟩ : S28), (⟨(⟨#[27, 91]⟩ : ByteArray), (⟨#[90]⟩ : ByteArray), 1⟩ : S28), (⟨(⟨#[27, 91]⟩ : ByteArray), (⟨#[88]⟩ : ByteArray), 1⟩ : S28), (⟨(⟨#[27, 91]⟩ : ByteArray), (⟨#[74]⟩ : ByteArray), 0⟩ : S28), (⟨(⟨#[27, 91]⟩ : ByteArray), (⟨#[75]⟩ : ByteArray), 0⟩ : S28), (⟨(⟨#[27, 91]⟩ : ByteArray), (⟨#[83]⟩ : ByteArray), 1⟩ : S28), (⟨(⟨#[27, 91]⟩ : ByteArray), (⟨#[84]⟩ : ByteArray), 1⟩ : S28), (⟨(⟨#[27, 91]⟩ : ByteArray), (⟨#[76]⟩ : ByteArray), 1⟩ : S28), (⟨(⟨#[27, 91]⟩ : ByteArray), (⟨#[77]⟩ : ByteArray), 1⟩ : S28), (⟨(⟨#[27, 91]⟩ : ByteArray), (⟨#[64]⟩ : ByteArray), 1⟩ : S28), (⟨(⟨#[27, 91]⟩ : ByteArray), (⟨#[80]⟩ : ByteArray), 1⟩ : S28), (⟨(⟨#[27, 91]⟩ : ByteArray), (⟨#[100]⟩ : ByteArray), 0⟩ : S28), (⟨(⟨#[27, 91]⟩ : ByteArray), (⟨#[101]⟩ : ByteArray), 1⟩ : S28), (⟨(⟨#[27, 91]⟩ : ByteArray), (⟨#[96]⟩ : ByteArray), 0⟩ : S28), (⟨(⟨#[27, 91]⟩ : ByteArray), (⟨#[97]⟩ : ByteArray), 0⟩ : S28), (⟨(⟨#[27, 91]⟩ : ByteArray), (⟨#[98]⟩ : ByteArray), 1⟩ : S28), (⟨(⟨#[]⟩ : ByteArray), (⟨#[]⟩ : ByteArray), 0⟩ : S28), (⟨(⟨#[27, 91]⟩ : ByteArray), (⟨#[103]⟩ : ByteArray), 0⟩ : S28), (⟨(⟨#[27, 91]⟩ : ByteArray), (⟨#[36, 119]⟩ : ByteArray), 0⟩ : S28), (⟨(⟨#[27, 91, 62]⟩ : ByteArray), (⟨#[117]⟩ : ByteArray), 0⟩ : S28), (⟨(⟨#[27, 91, 60]⟩ : ByteArray), (⟨#[117]⟩ : ByteArray), 0⟩ : S28), (⟨(⟨#[27, 91, 63]⟩ : ByteArray), (⟨#[109]⟩ : ByteArray), 0⟩ : S28)] : List (S28)))) = some r := h
  clear h
  obtain ⟨y174, hy174⟩ : ∃ y_ : List (S28), y_ = (([(⟨(⟨#[27, 91]⟩ : ByteArray), (⟨#[65]⟩ : ByteArray), 1⟩ : S28), (⟨(⟨#[27, 91]⟩ : ByteArray), (⟨#[66]⟩ : ByteArray), 1⟩ : S28), (⟨(⟨#[27, 91]⟩ : ByteArray), (⟨#[67]⟩ : ByteArray), 1⟩ : S28), (⟨(⟨#[27, 91]⟩ : ByteArray), (⟨#[68]⟩ : ByteArray), 1⟩ : S28), (⟨(⟨#[27, 91]⟩ : ByteArray), (⟨#[69]⟩ : ByteArray), 1⟩ : S28), (⟨(⟨#[27, 91]⟩ : ByteArray), (⟨#[70]⟩ : ByteArray), 1⟩ : S28), (⟨(⟨#[27, 91]⟩ : ByteArray), (⟨#[71]⟩ : ByteArray), 0⟩ : S28), (⟨(⟨#[27, 91]⟩ : ByteArray), (⟨#[73]⟩ : ByteArray), 1⟩ : S28), (⟨(⟨#[27, 91]⟩ : ByteArray), (⟨#[90]⟩ : ByteArray), 1⟩ : S28), (⟨(⟨#[27, 91]⟩ : ByteArray), (⟨#[88]⟩ : ByteArray), 1⟩ : S28), (⟨(⟨#[27, 91]⟩ : ByteArray), (⟨#[74]⟩ : ByteArray), 0⟩ : S28), (⟨(⟨#[27, 91]⟩ : ByteArray), (⟨#[75]⟩ : ByteArray), 0⟩ : S28), (⟨(⟨#[27, 91]⟩ : ByteArray), (⟨#[83]⟩ : ByteArray), 1⟩ : S28), (⟨(⟨#[27, 91]⟩ : ByteArray), (⟨#[84]⟩ : ByteArray), 1⟩ : S28), (⟨(⟨#[27, 91]⟩ : ByteArray), (⟨#[76]⟩ : ByteArray), 1⟩ : S28), (⟨(⟨#[27, 91]⟩ : ByteArray), (⟨#[77]⟩ : ByteArray), 1⟩ : S28), (⟨(⟨#[27, 91]⟩ : ByteArray), (⟨#[64]⟩ : ByteArray), 1⟩ : S28), (⟨(⟨#[27, 91]⟩ : ByteArray), (⟨#[80]⟩ : ByteArray), 1⟩ : S28), (⟨(⟨#[27, 91]⟩ : ByteArray), (⟨#[100]⟩ : ByteArray), 0⟩ : S28), (⟨(⟨#[27, 91]⟩ : ByteArray), (⟨#[101]⟩ : ByteArray), 1⟩ : S28), (⟨(⟨#[27, 91]⟩ : ByteArray), (⟨#[96]⟩ : ByteArray), 0⟩ : S28), (⟨(⟨#[27, 91]⟩ : ByteArray), (⟨#[97]⟩ : ByteArray), 0⟩ : S28), (⟨(⟨#[27, 91]⟩ : ByteArray), (⟨#[98]⟩ : ByteArray), 1⟩ : S28), (⟨(⟨#[]⟩ : ByteArray), (⟨#[]⟩ : ByteArray), 0⟩ : S28), (⟨(⟨#[27, 91]⟩ : ByteArray), (⟨#[103]⟩ : ByteArray), 0⟩ : S28), (⟨(⟨#[27, 91]⟩ : ByteArray), (⟨#[36, 119]⟩ : ByteArray), 0⟩ : S28), (⟨(⟨#[27, 91, 62]⟩ : ByteArray), (⟨#[117]⟩ : ByteArray), 0⟩ : S28), (⟨(⟨#[27, 91, 60]⟩ : ByteArray), (⟨#[117]⟩ : ByteArray), 0⟩ : S28), (⟨(⟨#[27, 91, 63]⟩ : ByteArray), (⟨#[109]⟩ : ByteArray), 0⟩ : S28)] : List (S28))) := ⟨_, rfl⟩
  replace H : (some y174) = some r := by first | (rw [hy174]; with_reducible exact H) | (have H2_ := (Option.bind_some _ _).symm.trans H; rw [hy174]; with_reducible exact H2_) | (have H2_ := (Option.bind_some _ _).symm.trans H; with_reducible exact H2_) | with_reducible exact H | (rw [hy174]; exact H) | exact H
  have Ny174 := Aside0.mk hy174
  clear hy174
  obtain rfl := Option.some.inj H
  go_enter Tryd.func18, Tryd.ntmps18
  go_wp2_with (first | ((with_reducible refine gate_dst (N := 30) rfl ?_); refine Kd.R_lit k28 _ 28 ?hg (N := 30) ?hd (xs := ([(⟨(⟨#[27, 91]⟩ : ByteArray), (⟨#[65]⟩ : ByteArray), 1⟩ : S28), (⟨(⟨#[27, 91]⟩ : ByteArray), (⟨#[66]⟩ : ByteArray), 1⟩ : S28), (⟨(⟨#[27, 91]⟩ : ByteArray), (⟨#[67]⟩ : ByteArray), 1⟩ : S28), (⟨(⟨#[27, 91]⟩ : ByteArray), (⟨#[68]⟩ : ByteArray), 1⟩ : S28), (⟨(⟨#[27, 91]⟩ : ByteArray), (⟨#[69]⟩ : ByteArray), 1⟩ : S28), (⟨(⟨#[27, 91]⟩ : ByteArray), (⟨#[70]⟩ : ByteArray), 1⟩ : S28), (⟨(⟨#[27, 91]⟩ : ByteArray), (⟨#[71]⟩ : ByteArray), 0⟩ : S28), (⟨(⟨#[27, 91]⟩ : ByteArray), (⟨#[73]⟩ : ByteArray), 1⟩ : S28), (⟨(⟨#[27, 91]⟩ : ByteArray), (⟨#[90]⟩ : ByteArray), 1⟩ : S28), (⟨(⟨#[27, 91]⟩ : ByteArray), (⟨#[88]⟩ : ByteArray), 1⟩ : S28), (⟨(⟨#[27, 91]⟩ : ByteArray), (⟨#[74]⟩ : ByteArray), 0⟩ : S28), (⟨(⟨#[27, 91]⟩ : ByteArray), (⟨#[75]⟩ : ByteArray), 0⟩ : S28), (⟨(⟨#[27, 91]⟩ : ByteArray), (⟨#[83]⟩ : ByteArray), 1⟩ : S28), (⟨(⟨#[27, 91]⟩ : ByteArray), (⟨#[84]⟩ : ByteArray), 1⟩ : S28), (⟨(⟨#[27, 91]⟩ : ByteArray), (⟨#[76]⟩ : ByteArray), 1⟩ : S28), (⟨(⟨#[27, 91]⟩ : ByteArray), (⟨#[77]⟩ : ByteArray), 1⟩ : S28), (⟨(⟨#[27, 91]⟩ : ByteArray), (⟨#[64]⟩ : ByteArray), 1⟩ : S28), (⟨(⟨#[27, 91]⟩ : ByteArray), (⟨#[80]⟩ : ByteArray), 1⟩ : S28), (⟨(⟨#[27, 91]⟩ : ByteArray), (⟨#[100]⟩ : ByteArray), 0⟩ : S28), (⟨(⟨#[27, 91]⟩ : ByteArray), (⟨#[101]⟩ : ByteArray), 1⟩ : S28), (⟨(⟨#[27, 91]⟩ : ByteArray), (⟨#[96]⟩ : ByteArray), 0⟩ : S28), (⟨(⟨#[27, 91]⟩ : ByteArray), (⟨#[97]⟩ : ByteArray), 0⟩ : S28), (⟨(⟨#[27, 91]⟩ : ByteArray), (⟨#[98]⟩ : ByteArray), 1⟩ : S28), (⟨(⟨#[]⟩ : ByteArray), (⟨#[]⟩ : ByteArray), 0⟩ : S28), (⟨(⟨#[27, 91]⟩ : ByteArray), (⟨#[103]⟩ : ByteArray), 0⟩ : S28), (⟨(⟨#[27, 91]⟩ : ByteArray), (⟨#[36, 119]⟩ : ByteArray), 0⟩ : S28), (⟨(⟨#[27, 91, 62]⟩ : ByteArray), (⟨#[117]⟩ : ByteArray), 0⟩ : S28), (⟨(⟨#[27, 91, 60]⟩ : ByteArray), (⟨#[117]⟩ : ByteArray), 0⟩ : S28), (⟨(⟨#[27, 91, 63]⟩ : ByteArray), (⟨#[109]⟩ : ByteArray), 0⟩ : S28)] : List (S28))) (inner := [.string (⟨#[27, 91]⟩ : ByteArray), .string (⟨#[65]⟩ : ByteArray), .int .i64 1, .string (⟨#[27, 91]⟩ : ByteArray), .string (⟨#[66]⟩ : ByteArray), .int .i64 1, .string (⟨#[27, 91]⟩ : ByteArray), .string (⟨#[67]⟩ : ByteArray), .int .i64 1, .string (⟨#[27, 91]⟩ : ByteArray), .string (⟨#[68]⟩ : ByteArray), .int .i64 1, .string (⟨#[27, 91]⟩ : ByteArray), .string (⟨#[69]⟩ : ByteArray), .int .i64 1, .string (⟨#[27, 91]⟩ : ByteArray), .string (⟨#[70]⟩ : ByteArray), .int .i64 1, .string (⟨#[27, 91]⟩ : ByteArray), .string (⟨#[71]⟩ : ByteArray), .int .i64 0, .string (⟨#[27, 91]⟩ : ByteArray), .string (⟨#[73]⟩ : ByteArray), .int .i64 1, .string (⟨#[27, 91]⟩ : ByteArray), .string (⟨#[90]⟩ : ByteArray), .int .i64 1, .string (⟨#[27, 91]⟩ : ByteArray), .string (⟨#[88]⟩ : ByteArray), .int .i64 1, .string (⟨#[27, 91]⟩ : ByteArray), .string (⟨#[74]⟩ : ByteArray), .int .i64 0, .string (⟨#[27, 91]⟩ : ByteArray), .string (⟨#[75]⟩ : ByteArray), .int .i64 0, .string (⟨#[27, 91]⟩ : ByteArray), .string (⟨#[83]⟩ : ByteArray), .int .i64 1, .string (⟨#[27, 91]⟩ : ByteArray), .string (⟨#[84]⟩ : ByteArray), .int .i64 1, .string (⟨#[27, 91]⟩ : ByteArray), .string (⟨#[76]⟩ : ByteArray), .int .i64 1, .string (⟨#[27, 91]⟩ : ByteArray), .string (⟨#[77]⟩ : ByteArray), .int .i64 1, .string (⟨#[27, 91]⟩ : ByteArray), .string (⟨#[64]⟩ : ByteArray), .int .i64 1, .string (⟨#[27, 91]⟩ : ByteArray), .string (⟨#[80]⟩ : ByteArray), .int .i64 1, .string (⟨#[27, 91]⟩ : ByteArray), .string (⟨#[100]⟩ : ByteArray), .int .i64 0, .string (⟨#[27, 91]⟩ : ByteArray), .string (⟨#[101]⟩ : ByteArray), .int .i64 1, .string (⟨#[27, 91]⟩ : ByteArray), .string (⟨#[96]⟩ : ByteArray), .int .i64 0, .string (⟨#[27, 91]⟩ : ByteArray), .string (⟨#[97]⟩ : ByteArray), .int .i64 0, .string (⟨#[27, 91]⟩ : ByteArray), .string (⟨#[98]⟩ : ByteArray), .int .i64 1, .string (⟨#[]⟩ : ByteArray), .string (⟨#[]⟩ : ByteArray), .int .i64 0, .string (⟨#[27, 91]⟩ : ByteArray), .string (⟨#[103]⟩ : ByteArray), .int .i64 0, .string (⟨#[27, 91]⟩ : ByteArray), .string (⟨#[36, 119]⟩ : ByteArray), .int .i64 0, .string (⟨#[27, 91, 62]⟩ : ByteArray), .string (⟨#[117]⟩ : ByteArray), .int .i64 0, .string (⟨#[27, 91, 60]⟩ : ByteArray), .string (⟨#[117]⟩ : ByteArray), .int .i64 0, .string (⟨#[27, 91, 63]⟩ : ByteArray), .string (⟨#[109]⟩ : ByteArray), .int .i64 0]) (ok := fun _ => True) (okp := fun _ => True) ?hr ?hp (fun _ hk => hk) trivial (Below.refl _ _) (Nat.le_refl _) (by simp) ?_; (case hd => rfl); (case hg => rfl); (case hr => first | (go_simp; done) | (go_simp; rfl)); (case hp => exact (Reps.c3 (show Kd.M k28 _ _ _ (⟨(⟨#[27, 91]⟩ : ByteArray), (⟨#[65]⟩ : ByteArray), 1⟩ : S28) [.string (⟨#[27, 91]⟩ : ByteArray), .string (⟨#[65]⟩ : ByteArray), .int .i64 1] from (k28_mkM _ _ _ (⟨(⟨#[27, 91]⟩ : ByteArray), (⟨#[65]⟩ : ByteArray), 1⟩ : S28) )) (Reps.c3 (show Kd.M k28 _ _ _ (⟨(⟨#[27, 91]⟩ : ByteArray), (⟨#[66]⟩ : ByteArray), 1⟩ : S28) [.string (⟨#[27, 91]⟩ : ByteArray), .string (⟨#[66]⟩ : ByteArray), .int .i64 1] from (k28_mkM _ _ _ (⟨(⟨#[27, 91]⟩ : ByteArray), (⟨#[66]⟩ : ByteArray), 1⟩ : S28) )) (Reps.c3 (show Kd.M k28 _ _ _ (⟨(⟨#[27, 91]⟩ : ByteArray), (⟨#[67]⟩ : ByteArray), 1⟩ : S28) [.string (⟨#[27, 91]⟩ : ByteArray), .string (⟨#[67]⟩ : ByteArray), .int .i64 1] from (k28_mkM _ _ _ (⟨(⟨#[27, 91]⟩ : ByteArray), (⟨#[67]⟩ : ByteArray), 1⟩ : S28) )) (Reps.c3 (show Kd.M k28 _ _ _ (⟨(⟨#[27, 91]⟩ : ByteArray), (⟨#[68]⟩ : ByteArray), 1⟩ : S28) [.string (⟨#[27, 91]⟩ : ByteArray), .string (⟨#[68]⟩ : ByteArray), .int .i64 1] from (k28_mkM _ _ _ (⟨(⟨#[27, 91]⟩ : ByteArray), (⟨#[68]⟩ : ByteArray), 1⟩ : S28) )) (Reps.c3 (show Kd.M k28 _ _ _ (⟨(⟨#[27, 91]⟩ : ByteArray), (⟨#[69]⟩ : ByteArray), 1⟩ : S28) [.string (⟨#[27, 91]⟩ : ByteArray), .string (⟨#[69]⟩ : ByteArray), .int .i64 1] from (k28_mkM _ _ _ (⟨(⟨#[27, 91]⟩ : ByteArray), (⟨#[69]⟩ : ByteArray), 1⟩ : S28) )) (Reps.c3 (show Kd.M k28 _ _ _ (⟨(⟨#[27, 91]⟩ : ByteArray), (⟨#[70]⟩ : ByteArray), 1⟩ : S28) [.string (⟨#[27, 91]⟩ : ByteArray), .string (⟨#[70]⟩ : ByteArray), .int .i64 1] from (k28_mkM _ _ _ (⟨(⟨#[27, 91]⟩ : ByteArray), (⟨#[70]⟩ : ByteArray), 1⟩ : S28) )) (Reps.c3 (show Kd.M k28 _ _ _ (⟨(⟨#[27, 91]⟩ : ByteArray), (⟨#[71]⟩ : ByteArray), 0⟩ : S28) [.string (⟨#[27, 91]⟩ : ByteArray), .string (⟨#[71]⟩ : ByteArray), .int .i64 0] from (k28_mkM _ _ _ (⟨(⟨#[27, 91]⟩ : ByteArray), (⟨#[71]⟩ : ByteArray), 0⟩ : S28) )) (Reps.c3 (show Kd.M k28 _ _ _ (⟨(⟨#[27, 91]⟩ : ByteArray), (⟨#[73]⟩ : ByteArray), 1⟩ : S28) [.string (⟨#[27, 91]⟩ : ByteArray), .string (⟨#[73]⟩ : ByteArray), .int .i64 1] from (k28_mkM _ _ _ (⟨(⟨#[27, 91]⟩ : ByteArray), (⟨#[73]⟩ : ByteArray), 1⟩ : S28) )) (Reps.c3 (show Kd.M k28 _ _ _ (⟨(⟨#[27, 91]⟩ : ByteArray), (⟨#[90]⟩ : ByteArray), 1⟩ : S28) [.string (⟨#[27, 91]⟩ : ByteArray), .string (⟨#[90]⟩ : ByteArray), .int .i64 1] from (k28_mkM _ _ _ (⟨(⟨#[27, 91]⟩ : ByteArray), (⟨#[90]⟩ : ByteArray), 1⟩ : S28) )) (Reps.c3 (show Kd.M k28 _ _ _ (⟨(⟨#[27, 91]⟩ : ByteArray), (⟨#[88]⟩ : ByteArray), 1⟩ : S28) [.string (⟨#[27, 91]⟩ : ByteArray), .string (⟨#[88]⟩ : ByteArray), .int .i64 1] from (k28_mkM _ _ _ (⟨(⟨#[27, 91]⟩ : ByteArray), (⟨#[88]⟩ : ByteArray), 1⟩ : S28) )) (Reps.c3 (show Kd.M k28 _ _ _ (⟨(⟨#[27, 91]⟩ : ByteArray), (⟨#[74]⟩ : ByteArray), 0⟩ : S28) [.string (⟨#[27, 91]⟩ : ByteArray), .string (⟨#[74]⟩ : ByteArray), .int .i64 0] from (k28_mkM _ _ _ (⟨(⟨#[27, 91]⟩ : ByteArray), (⟨#[74]⟩ : ByteArray), 0⟩ : S28) )) (Reps.c3 (show Kd.M k28 _ _ _ (⟨(⟨#[27, 91]⟩ : ByteArray), (⟨#[75]⟩ : ByteArray), 0⟩ : S28) [.string (⟨#[27, 91]⟩ : ByteArray), .string (⟨#[75]⟩ : ByteArray), .int .i64 0] from (k28_mkM _ _ _ (⟨(⟨#[27, 91]⟩ : ByteArray), (⟨#[75]⟩ : ByteArray), 0⟩ : S28) )) (Reps.c3 (show Kd.M k28 _ _ _ (⟨(⟨#[27, 91]⟩ : ByteArray), (⟨#[83]⟩ : ByteArray), 1⟩ : S28) [.string (⟨#[27, 91]⟩ : ByteArray), .string (⟨#[83]⟩ : ByteArray), .int .i64 1] from (k28_mkM _ _ _ (⟨(⟨#[27, 91]⟩ : ByteArray), (⟨#[83]⟩ : ByteArray), 1⟩ : S28) )) (Reps.c3 (show Kd.M k28 _ _ _ (⟨(⟨#[27, 91]⟩ : ByteArray), (⟨#[84]⟩ : ByteArray), 1⟩ : S28) [.string (⟨#[27, 91]⟩ : ByteArray), .string (⟨#[84]⟩ : ByteArray), .int .i64 1] from (k28_mkM _ _ _ (⟨(⟨#[27, 91]⟩ : ByteArray), (⟨#[84]⟩ : ByteArray), 1⟩ : S28) )) (Reps.c3 (show Kd.M k28 _ _ _ (⟨(⟨#[27, 91]⟩ : ByteArray), (⟨#[76]⟩ : ByteArray), 1⟩ : S28) [.string (⟨#[27, 91]⟩ : ByteArray), .string (⟨#[76]⟩ : ByteArray), .int .i64 1] from (k28_mkM _ _ _ (⟨(⟨#[27, 91]⟩ : ByteArray), (⟨#[76]⟩ : ByteArray), 1⟩ : S28) )) (Reps.c3 (show Kd.M k28 _ _ _ (⟨(⟨#[27, 91]⟩ : ByteArray), (⟨#[77]⟩ : ByteArray), 1⟩ : S28) [.string (⟨#[27, 91]⟩ : ByteArray), .string (⟨#[77]⟩ : ByteArray), .int .i64 1] from (k28_mkM _ _ _ (⟨(⟨#[27, 91]⟩ : ByteArray), (⟨#[77]⟩ : ByteArray), 1⟩ : S28) )) (Reps.c3 (show Kd.M k28 _ _ _ (⟨(⟨#[27, 91]⟩ : ByteArray), (⟨#[64]⟩ : ByteArray), 1⟩ : S28) [.string (⟨#[27, 91]⟩ : ByteArray), .string (⟨#[64]⟩ : ByteArray), .int .i64 1] from (k28_mkM _ _ _ (⟨(⟨#[27, 91]⟩ : ByteArray), (⟨#[64]⟩ : ByteArray), 1⟩ : S28) )) (Reps.c3 (show Kd.M k28 _ _ _ (⟨(⟨#[27, 91]⟩ : ByteArray), (⟨#[80]⟩ : ByteArray), 1⟩ : S28) [.string (⟨#[27, 91]⟩ : ByteArray), .string (⟨#[80]⟩ : ByteArray), .int .i64 1] from (k28_mkM _ _ _ (⟨(⟨#[27, 91]⟩ : ByteArray), (⟨#[80]⟩ : ByteArray), 1⟩ : S28) )) (Reps.c3 (show Kd.M k28 _ _ _ (⟨(⟨#[27, 91]⟩ : ByteArray), (⟨#[100]⟩ : ByteArray), 0⟩ : S28) [.string (⟨#[27, 91]⟩ : ByteArray), .string (⟨#[100]⟩ : ByteArray), .int .i64 0] from (k28_mkM _ _ _ (⟨(⟨#[27, 91]⟩ : ByteArray), (⟨#[100]⟩ : ByteArray), 0⟩ : S28) )) (Reps.c3 (show Kd.M k28 _ _ _ (⟨(⟨#[27, 91]⟩ : ByteArray), (⟨#[101]⟩ : ByteArray), 1⟩ : S28) [.string (⟨#[27, 91]⟩ : ByteArray), .string (⟨#[101]⟩ : ByteArray), .int .i64 1] from (k28_mkM _ _ _ (⟨(⟨#[27, 91]⟩ : ByteArray), (⟨#[101]⟩ : ByteArray), 1⟩ : S28) )) (Reps.c3 (show Kd.M k28 _ _ _ (⟨(⟨#[27, 91]⟩ : ByteArray), (⟨#[96]⟩ : ByteArray), 0⟩ : S28) [.string (⟨#[27, 91]⟩ : ByteArray), .string (⟨#[96]⟩ : ByteArray), .int .i64 0] from (k28_mkM _ _ _ (⟨(⟨#[27, 91]⟩ : ByteArray), (⟨#[96]⟩ : ByteArray), 0⟩ : S28) )) (Reps.c3 (show Kd.M k28 _ _ _ (⟨(⟨#[27, 91]⟩ : ByteArray), (⟨#[97]⟩ : ByteArray), 0⟩ : S28) [.string (⟨#[27, 91]⟩ : ByteArray), .string (⟨#[97]⟩ : ByteArray), .int .i64 0] from (k28_mkM _ _ _ (⟨(⟨#[27, 91]⟩ : ByteArray), (⟨#[97]⟩ : ByteArray), 0⟩ : S28) )) (Reps.c3 (show Kd.M k28 _ _ _ (⟨(⟨#[27, 91]⟩ : ByteArray), (⟨#[98]⟩ : ByteArray), 1⟩ : S28) [.string (⟨#[27, 91]⟩ : ByteArray), .string (⟨#[98]⟩ : ByteArray), .int .i64 1] from (k28_mkM _ _ _ (⟨(⟨#[27, 91]⟩ : ByteArray), (⟨#[98]⟩ : ByteArray), 1⟩ : S28) )) (Reps.c3 (show Kd.M k28 _ _ _ (⟨(⟨#[]⟩ : ByteArray), (⟨#[]⟩ : ByteArray), 0⟩ : S28) [.string (⟨#[]⟩ : ByteArray), .string (⟨#[]⟩ : ByteArray), .int .i64 0] from (k28_mkM _ _ _ (⟨(⟨#[]⟩ : ByteArray), (⟨#[]⟩ : ByteArray), 0⟩ : S28) )) (Reps.c3 (show Kd.M k28 _ _ _ (⟨(⟨#[27, 91]⟩ : ByteArray), (⟨#[103]⟩ : ByteArray), 0⟩ : S28) [.string (⟨#[27, 91]⟩ : ByteArray), .string (⟨#[103]⟩ : ByteArray), .int .i64 0] from (k28_mkM _ _ _ (⟨(⟨#[27, 91]⟩ : ByteArray), (⟨#[103]⟩ : ByteArray), 0⟩ : S28) )) (Reps.c3 (show Kd.M k28 _ _ _ (⟨(⟨#[27, 91]⟩ : ByteArray), (⟨#[36, 119]⟩ : ByteArray), 0⟩ : S28) [.string (⟨#[27, 91]⟩ : ByteArray), .string (⟨#[36, 119]⟩ : ByteArray), .int .i64 0] from (k28_mkM _ _ _ (⟨(⟨#[27, 91]⟩ : ByteArray), (⟨#[36, 119]⟩ : ByteArray), 0⟩ : S28) )) (Reps.c3 (show Kd.M k28 _ _ _ (⟨(⟨#[27, 91, 62]⟩ : ByteArray), (⟨#[117]⟩ : ByteArray), 0⟩ : S28) [.string (⟨#[27, 91, 62]⟩ : ByteArray), .string (⟨#[117]⟩ : ByteArray), .int .i64 0] from (k28_mkM _ _ _ (⟨(⟨#[27, 91, 62]⟩ : ByteArray), (⟨#[117]⟩ : ByteArray), 0⟩ : S28) )) (Reps.c3 (show Kd.M k28 _ _ _ (⟨(⟨#[27, 91, 60]⟩ : ByteArray), (⟨#[117]⟩ : ByteArray), 0⟩ : S28) [.string (⟨#[27, 91, 60]⟩ : ByteArray), .string (⟨#[117]⟩ : ByteArray), .int .i64 0] from (k28_mkM _ _ _ (⟨(⟨#[27, 91, 60]⟩ : ByteArray), (⟨#[117]⟩ : ByteArray), 0⟩ : S28) )) (Reps.c3 (show Kd.M k28 _ _ _ (⟨(⟨#[27, 91, 63]⟩ : ByteArray), (⟨#[109]⟩ : ByteArray), 0⟩ : S28) [.string (⟨#[27, 91, 63]⟩ : ByteArray), .string (⟨#[109]⟩ : ByteArray), .int .i64 0] from (k28_mkM _ _ _ (⟨(⟨#[27, 91, 63]⟩ : ByteArray), (⟨#[109]⟩ : ByteArray), 0⟩ : S28) )) (Reps.none _ _))))))))))))))))))))))))))))))); intro v175 w1 ho2 hb hg_ hnew_; clear hg_ hnew_; (first | rw [← Ny174.out] at ho2 | (simp only [Int.reduceToNat] at ho2; rw [← Ny174.out] at ho2)); have n0_ := Aside0.mk (Kd.R_lower ho2 (below_size (by repeat (first | (with_reducible first | exact HB.out | apply below_alloc | apply Go.Proofs.YtplmmblofhhikaaDoor.Ext.below_bytes | apply pw_below_drewN | apply below_drew1) | exact HB.out)))); have n1_ := Aside0.mk (below_step (by repeat (first | (with_reducible first | exact HB.out | apply below_alloc | apply Go.Proofs.YtplmmblofhhikaaDoor.Ext.below_bytes | apply pw_below_drewN | apply below_drew1) | exact HB.out)) hb); clear HB; have HO176 := n0_; have HB := n1_; clear n0_ n1_; clear hb ho2))
  go_ret
  exact ⟨_, by first | rfl | (simp [errW_none, errW_some] <;> rfl) | (simp [*, errW_none, errW_some] <;> rfl), by (with_reducible repeat (first | apply Kd.R_alloc | apply Go.Proofs.YtplmmblofhhikaaDoor.Ext.R_bytes | apply Kd.R_drewN | apply Kd.R_drew)); exact HO176.out, by repeat (first | (with_reducible first | exact HB.out | apply below_alloc | apply Go.Proofs.YtplmmblofhhikaaDoor.Ext.below_bytes | apply pw_below_drewN | apply below_drew1) | exact HB.out)⟩

end Go.Proofs.YtplmmblofhhikaaDoor.PU
