-- Written by wip/pp.py, a program of this session, out of the translation. Not trusted: Lean checks it.
import Derived.Test.YtakjcihjkagnfaaDoorPMx0
import Derived.Test.YtakjcihjkagnfaaDoorPMx1
namespace Go.Proofs.YtakjcihjkagnfaaDoor.PM
open Go.RowKit Go.Proofs.YtakjcihjkagnfaaDoor.Or Go.Proofs.YtakjcihjkagnfaaDoorW.PrintWords Go.Proofs.YtakjcihjkagnfaaDoorW.PrintLast Go.Proofs.YtakjcihjkagnfaaDoorW.PrintMore
attribute [local go_sem] max2_int min2_int max_two min_two max_three min_three max_four min_four   -- for this text's walks alone
attribute [local go_sem] Go.Proofs.YtakjcihjkagnfaaDoor.Ext.wrap64_mod256 Go.Proofs.YtakjcihjkagnfaaDoor.Ext.wrap64_mod32 Go.Proofs.YtakjcihjkagnfaaDoor.Ext.i64_mod256 Go.Proofs.YtakjcihjkagnfaaDoor.Ext.i64_mod32 Go.Proofs.YtakjcihjkagnfaaDoor.Ext.i64_u8 Go.Proofs.YtakjcihjkagnfaaDoor.Ext.w64_u8 Go.Proofs.YtakjcihjkagnfaaDoor.Ext.i64_u32 Go.Proofs.YtakjcihjkagnfaaDoor.Ext.w64_u32 
set_option linter.unusedVariables false
set_option linter.unusedSimpArgs false

/-! ### xansi_TabClear: function 44 -/
def xansi_TabClear.f (a0 : Int) : Option (ByteArray) := none
set_option maxHeartbeats 8000000 in
set_option maxRecDepth 100000 in
theorem xansi_TabClear.calls (a0 : Int) (r : ByteArray) (w : World) (hLD : Laid w) (h : xansi_TabClear.f a0 = some r) :
    Calls Tryd.prog 44 #[.int .i64 a0] w fun e w' => e = .returned (.string r) ∧ Below w.heap.size w w' := by
  have HLD := Aside0.mk hLD
  clear hLD
  have HB := Aside0.mk (Below.refl w.heap.size w)
  have H : (none) = some r := h
  clear h
  exact absurd H (by simp)

/-! ### xansi_RequestPresentationStateReport: function 45 -/
def xansi_RequestPresentationStateReport.f (a0 : Int) : Option (ByteArray) := none
set_option maxHeartbeats 8000000 in
set_option maxRecDepth 100000 in
theorem xansi_RequestPresentationStateReport.calls (a0 : Int) (r : ByteArray) (w : World) (hLD : Laid w) (h : xansi_RequestPresentationStateReport.f a0 = some r) :
    Calls Tryd.prog 45 #[.int .i64 a0] w fun e w' => e = .returned (.string r) ∧ Below w.heap.size w w' := by
  have HLD := Aside0.mk hLD
  clear hLD
  have HB := Aside0.mk (Below.refl w.heap.size w)
  have H : (none) = some r := h
  clear h
  exact absurd H (by simp)

/-! ### xansi_PushKittyKeyboard: function 46 -/
def xansi_PushKittyKeyboard.f (a0 : Int) : Option (ByteArray) := none
set_option maxHeartbeats 8000000 in
set_option maxRecDepth 100000 in
theorem xansi_PushKittyKeyboard.calls (a0 : Int) (r : ByteArray) (w : World) (hLD : Laid w) (h : xansi_PushKittyKeyboard.f a0 = some r) :
    Calls Tryd.prog 46 #[.int .i64 a0] w fun e w' => e = .returned (.string r) ∧ Below w.heap.size w w' := by
  have HLD := Aside0.mk hLD
  clear hLD
  have HB := Aside0.mk (Below.refl w.heap.size w)
  have H : (none) = some r := h
  clear h
  exact absurd H (by simp)

/-! ### xansi_PopKittyKeyboard: function 47 -/
def xansi_PopKittyKeyboard.f (a0 : Int) : Option (ByteArray) := none
set_option maxHeartbeats 8000000 in
set_option maxRecDepth 100000 in
theorem xansi_PopKittyKeyboard.calls (a0 : Int) (r : ByteArray) (w : World) (hLD : Laid w) (h : xansi_PopKittyKeyboard.f a0 = some r) :
    Calls Tryd.prog 47 #[.int .i64 a0] w fun e w' => e = .returned (.string r) ∧ Below w.heap.size w w' := by
  have HLD := Aside0.mk hLD
  clear hLD
  have HB := Aside0.mk (Below.refl w.heap.size w)
  have H : (none) = some r := h
  clear h
  exact absurd H (by simp)

/-! ### xansi_QueryKeyModifierOptions: function 48 -/
def xansi_QueryKeyModifierOptions.f (a0 : Int) : Option (ByteArray) := none
set_option maxHeartbeats 8000000 in
set_option maxRecDepth 100000 in
theorem xansi_QueryKeyModifierOptions.calls (a0 : Int) (r : ByteArray) (w : World) (hLD : Laid w) (h : xansi_QueryKeyModifierOptions.f a0 = some r) :
    Calls Tryd.prog 48 #[.int .i64 a0] w fun e w' => e = .returned (.string r) ∧ Below w.heap.size w w' := by
  have HLD := Aside0.mk hLD
  clear hLD
  have HB := Aside0.mk (Below.refl w.heap.size w)
  have H : (none) = some r := h
  clear h
  exact absurd H (by simp)

/-! ### xansi_ResetKeyModifierOptions: function 49 -/
def xansi_ResetKeyModifierOptions.f (a0 : Int) : Option (ByteArray) := none
set_option maxHeartbeats 8000000 in
set_option maxRecDepth 100000 in
theorem xansi_ResetKeyModifierOptions.calls (a0 : Int) (r : ByteArray) (w : World) (h : xansi_ResetKeyModifierOptions.f a0 = some r) :
    Calls Tryd.prog 49 #[.int .i64 a0] w fun e w' => e = .returned (.string r) ∧ Drawn0 w w' := by
  have H : (none) = some r := h
  clear h
  exact absurd H (by simp)

/-! ### xansi_ModifyOtherKeys: function 50 -/
def xansi_ModifyOtherKeys.f (a0 : Int) : Option (ByteArray) := none
set_option maxHeartbeats 8000000 in
set_option maxRecDepth 100000 in
theorem xansi_ModifyOtherKeys.calls (a0 : Int) (r : ByteArray) (w : World) (hLD : Laid w) (h : xansi_ModifyOtherKeys.f a0 = some r) :
    Calls Tryd.prog 50 #[.int .i64 a0] w fun e w' => e = .returned (.string r) ∧ Below w.heap.size w w' := by
  have HLD := Aside0.mk hLD
  clear hLD
  have HB := Aside0.mk (Below.refl w.heap.size w)
  have H : (none) = some r := h
  clear h
  exact absurd H (by simp)

/-! ### xansi_SetProgressBar: function 51 -/
def xansi_SetProgressBar.f (a0 : Int) : Option (ByteArray) := none
set_option maxHeartbeats 8000000 in
set_option maxRecDepth 100000 in
theorem xansi_SetProgressBar.calls (a0 : Int) (r : ByteArray) (w : World) (hLD : Laid w) (h : xansi_SetProgressBar.f a0 = some r) :
    Calls Tryd.prog 51 #[.int .i64 a0] w fun e w' => e = .returned (.string r) ∧ Below w.heap.size w w' := by
  have HLD := Aside0.mk hLD
  clear hLD
  have HB := Aside0.mk (Below.refl w.heap.size w)
  have H : (none) = some r := h
  clear h
  exact absurd H (by simp)

/-! ### xansi_SetErrorProgressBar: function 52 -/
def xansi_SetErrorProgressBar.f (a0 : Int) : Option (ByteArray) := none
set_option maxHeartbeats 8000000 in
set_option maxRecDepth 100000 in
theorem xansi_SetErrorProgressBar.calls (a0 : Int) (r : ByteArray) (w : World) (hLD : Laid w) (h : xansi_SetErrorProgressBar.f a0 = some r) :
    Calls Tryd.prog 52 #[.int .i64 a0] w fun e w' => e = .returned (.string r) ∧ Below w.heap.size w w' := by
  have HLD := Aside0.mk hLD
  clear hLD
  have HB := Aside0.mk (Below.refl w.heap.size w)
  have H : (none) = some r := h
  clear h
  exact absurd H (by simp)

/-! ### xansi_SetWarningProgressBar: function 53 -/
def xansi_SetWarningProgressBar.f (a0 : Int) : Option (ByteArray) := none
set_option maxHeartbeats 8000000 in
set_option maxRecDepth 100000 in
theorem xansi_SetWarningProgressBar.calls (a0 : Int) (r : ByteArray) (w : World) (hLD : Laid w) (h : xansi_SetWarningProgressBar.f a0 = some r) :
    Calls Tryd.prog 53 #[.int .i64 a0] w fun e w' => e = .returned (.string r) ∧ Below w.heap.size w w' := by
  have HLD := Aside0.mk hLD
  clear hLD
  have HB := Aside0.mk (Below.refl w.heap.size w)
  have H : (none) = some r := h
  clear h
  exact absurd H (by simp)

/-! ### impl_MakeNumber: function 10 -/
def impl_MakeNumber.f (a0 : Int) (a1 : Int) : Option (ByteArray) := if a0 = 0 then ((xansi_CursorUp.f a1).bind fun t117 => (some t117)) else (if a0 = 1 then ((xansi_CursorDown.f a1).bind fun t118 => (some t118)) else (if a0 = 2 then ((xansi_CursorForward.f a1).bind fun t119 => (some t119)) else (if a0 = 3 then ((xansi_CursorBackward.f a1).bind fun t120 => (some t120)) else (if a0 = 4 then ((xansi_CursorNextLine.f a1).bind fun t121 => (some t121)) else (if a0 = 5 then ((xansi_CursorPreviousLine.f a1).bind fun t122 => (some t122)) else (if a0 = 6 then ((xansi_CursorHorizontalAbsolute.f a1).bind fun t123 => (some t123)) else (if a0 = 7 then ((xansi_CursorHorizontalForwardTab.f a1).bind fun t124 => (some t124)) else (if a0 = 8 then ((xansi_CursorBackwardTab.f a1).bind fun t125 => (some t125)) else (if a0 = 9 then ((xansi_EraseCharacter.f a1).bind fun t126 => (some t126)) else (if a0 = 10 then ((xansi_EraseDisplay.f a1).bind fun t127 => (some t127)) else (if a0 = 11 then ((xansi_EraseLine.f a1).bind fun t128 => (some t128)) else (if a0 = 12 then ((xansi_ScrollUp.f a1).bind fun t129 => (some t129)) else (if a0 = 13 then ((xansi_ScrollDown.f a1).bind fun t130 => (some t130)) else (if a0 = 14 then ((xansi_InsertLine.f a1).bind fun t131 => (some t131)) else (if a0 = 15 then ((xansi_DeleteLine.f a1).bind fun t132 => (some t132)) else (if a0 = 16 then ((xansi_InsertCharacter.f a1).bind fun t133 => (some t133)) else (if a0 = 17 then ((xansi_DeleteCharacter.f a1).bind fun t134 => (some t134)) else (if a0 = 18 then ((xansi_VerticalPositionAbsolute.f a1).bind fun t135 => (some t135)) else (if a0 = 19 then ((xansi_VerticalPositionRelative.f a1).bind fun t136 => (some t136)) else (if a0 = 20 then ((xansi_HorizontalPositionAbsolute.f a1).bind fun t137 => (some t137)) else (if a0 = 21 then ((xansi_HorizontalPositionRelative.f a1).bind fun t138 => (some t138)) else (if a0 = 22 then ((xansi_RepeatPreviousCharacter.f a1).bind fun t139 => (some t139)) else (if a0 = 23 then ((xansi_SetCursorStyle.f a1).bind fun t140 => (some t140)) else (if a0 = 24 then ((xansi_TabClear.f a1).bind fun t141 => (some t141)) else (if a0 = 25 then ((xansi_RequestPresentationStateReport.f a1).bind fun t142 => (some t142)) else (if a0 = 26 then ((xansi_PushKittyKeyboard.f a1).bind fun t143 => (some t143)) else (if a0 = 27 then ((xansi_PopKittyKeyboard.f a1).bind fun t144 => (some t144)) else (if a0 = 28 then ((xansi_QueryKeyModifierOptions.f a1).bind fun t145 => (some t145)) else (if a0 = 29 then ((xansi_ResetKeyModifierOptions.f a1).bind fun t146 => (some t146)) else (if a0 = 30 then ((xansi_ModifyOtherKeys.f a1).bind fun t147 => (some t147)) else (if a0 = 31 then ((xansi_SetProgressBar.f a1).bind fun t148 => (some t148)) else (if a0 = 32 then ((xansi_SetErrorProgressBar.f a1).bind fun t149 => (some t149)) else (if a0 = 33 then ((xansi_SetWarningProgressBar.f a1).bind fun t150 => (some t150)) else (some (⟨#[]⟩ : ByteArray)))))))))))))))))))))))))))))))))))
set_option maxHeartbeats 8000000 in
set_option maxRecDepth 100000 in
theorem impl_MakeNumber.calls (a0 : Int) (a1 : Int) (r : ByteArray) (w : World) (hLD : Laid w) (h : impl_MakeNumber.f a0 a1 = some r) :
    Calls Tryd.prog 10 #[.int .i64 a0, .int .i64 a1] w fun e w' => e = .returned (.string r) ∧ Below w.heap.size w w' := by
  have HLD := Aside0.mk hLD
  clear hLD
  have HB := Aside0.mk (Below.refl w.heap.size w)
  have H : (if a0 = 0 then ((xansi_CursorUp.f a1).bind fun t117 => (some t117)) else (if a0 = 1 then ((xansi_CursorDown.f a1).bind fun t118 => (some t118)) else (if a0 = 2 then ((xansi_CursorForward.f a1).bind fun t119 => (some t119)) else (if a0 = 3 then ((xansi_CursorBackward.f a1).bind fun t120 => (some t120)) else (if a0 = 4 then ((xansi_CursorNextLine.f a1).bind fun t121 => (some t121)) else (if a0 = 5 then ((xansi_CursorPreviousLine.f a1).bind fun t122 => (some t122)) else (if a0 = 6 then ((xansi_CursorHorizontalAbsolute.f a1).bind fun t123 => (some t123)) else (if a0 = 7 then ((xansi_CursorHorizontalForwardTab.f a1).bind fun t124 => (some t124)) else (if a0 = 8 then ((xansi_CursorBackwardTab.f a1).bind fun t125 => (some t125)) else (if a0 = 9 then ((xansi_EraseCharacter.f a1).bind fun t126 => (some t126)) else (if a0 = 10 then ((xansi_EraseDisplay.f a1).bind fun t127 => (some t127)) else (if a0 = 11 then ((xansi_EraseLine.f a1).bind fun t128 => (some t128)) else (if a0 = 12 then ((xansi_ScrollUp.f a1).bind fun t129 => (some t129)) else (if a0 = 13 then ((xansi_ScrollDown.f a1).bind fun t130 => (some t130)) else (if a0 = 14 then ((xansi_InsertLine.f a1).bind fun t131 => (some t131)) else (if a0 = 15 then ((xansi_DeleteLine.f a1).bind fun t132 => (some t132)) else (if a0 = 16 then ((xansi_InsertCharacter.f a1).bind fun t133 => (some t133)) else (if a0 = 17 then ((xansi_DeleteCharacter.f a1).bind fun t134 => (some t134)) else (if a0 = 18 then ((xansi_VerticalPositionAbsolute.f a1).bind fun t135 => (some t135)) else (if a0 = 19 then ((xansi_VerticalPositionRelative.f a1).bind fun t136 => (some t136)) else (if a0 = 20 then ((xansi_HorizontalPositionAbsolute.f a1).bind fun t137 => (some t137)) else (if a0 = 21 then ((xansi_HorizontalPositionRelative.f a1).bind fun t138 => (some t138)) else (if a0 = 22 then ((xansi_RepeatPreviousCharacter.f a1).bind fun t139 => (some t139)) else (if a0 = 23 then ((xansi_SetCursorStyle.f a1).bind fun t140 => (some t140)) else (if a0 = 24 then ((xansi_TabClear.f a1).bind fun t141 => (some t141)) else (if a0 = 25 then ((xansi_RequestPresentationStateReport.f a1).bind fun t142 => (some t142)) else (if a0 = 26 then ((xansi_PushKittyKeyboard.f a1).bind fun t143 => (some t143)) else (if a0 = 27 then ((xansi_PopKittyKeyboard.f a1).bind fun t144 => (some t144)) else (if a0 = 28 then ((xansi_QueryKeyModifierOptions.f a1).bind fun t145 => (some t145)) else (if a0 = 29 then ((xansi_ResetKeyModifierOptions.f a1).bind fun t146 => (some t146)) else (if a0 = 30 then ((xansi_ModifyOtherKeys.f a1).bind fun t147 => (some t147)) else (if a0 = 31 then ((xansi_SetProgressBar.f a1).bind fun t148 => (some t148)) else (if a0 = 32 then ((xansi_SetErrorProgressBar.f a1).bind fun t149 => (some t149)) else (if a0 = 33 then ((xansi_SetWarningProgressBar.f a1).bind fun t150 => (some t150)) else (some (⟨#[]⟩ : ByteArray)))))))))))))))))))))))))))))))))))) = some r := h
  clear h
  by_cases c3 : a0 = 0
  · rw [if_pos c3] at H
    have c3b0 : (a0 == 0) = true := beq_iff_eq.mpr c3
    have c3b1 : (a0 != 0) = false := bne_eq_false_iff_eq.mpr c3
    clear c3
    replace H := Option.bind_eq_some_iff.mp H
    obtain ⟨t117, A40, H⟩ := H
    replace H : (some t117) = some r := H
    have A4 := Aside0.mk A40
    clear A40
    obtain rfl := Option.some.inj H
    go_enter Tryd.func10, Tryd.ntmps10
    go_wp2_with (first | ((with_reducible refine gate_callee (f := 20) rfl ?_); refine goesL_ (some 11) rfl rfl Tryd.func20 (by kernel_rfl) rfl #[.int .i64 a1] rfl (by (try simp only [List.map_toArray, List.map_cons, List.map_nil]); first | done | rfl | (simp only [List.length_drop, List.length_take]; rfl) | (simp [Act.eval, *]; done) | (simp [Act.eval, *]; unfold wrap64; omega)) ?_; (with_reducible refine (xansi_CursorUp.calls a1 t117 _ ?side1 A4.out).mono ?_); (case side1 => exact HLD.out.below (by repeat (first | (with_reducible first | exact HB.out | apply below_alloc | apply Go.Proofs.YtakjcihjkagnfaaDoor.Ext.below_bytes | apply pw_below_drewN | apply below_drew1) | exact HB.out))); rintro e w5 ⟨rfl, hb⟩; refine ⟨_, rfl, ?_⟩; have n0_ := Aside0.mk (below_step (by repeat (first | (with_reducible first | exact HB.out | apply below_alloc | apply Go.Proofs.YtakjcihjkagnfaaDoor.Ext.below_bytes | apply pw_below_drewN | apply below_drew1) | exact HB.out)) hb); clear HB; have HB := n0_; clear n0_; (try clear hb); (try clear hb2); (try clear hk); (try clear hi)))
    go_ret
    exact ⟨by first | rfl | (simp [errW_none, errW_some] <;> rfl) | (simp [*, errW_none, errW_some] <;> rfl), by repeat (first | (with_reducible first | exact HB.out | apply below_alloc | apply Go.Proofs.YtakjcihjkagnfaaDoor.Ext.below_bytes | apply pw_below_drewN | apply below_drew1) | exact HB.out)⟩
  · rw [if_neg c3] at H
    have c3b0 : (a0 == 0) = false := beq_eq_false_iff_ne.mpr c3
    have c3b1 : (a0 != 0) = true := bne_iff_ne.mpr c3
    by_cases c6 : a0 = 1
    · rw [if_pos c6] at H
      have c6b0 : (a0 == 1) = true := beq_iff_eq.mpr c6
      have c6b1 : (a0 != 1) = false := bne_eq_false_iff_eq.mpr c6
      clear c6
      replace H := Option.bind_eq_some_iff.mp H
      obtain ⟨t118, A70, H⟩ := H
      replace H : (some t118) = some r := H
      have A7 := Aside0.mk A70
      clear A70
      obtain rfl := Option.some.inj H
      go_enter Tryd.func10, Tryd.ntmps10
      go_wp2_with (first | ((with_reducible refine gate_callee (f := 21) rfl ?_); refine goesL_ (some 15) rfl rfl Tryd.func21 (by kernel_rfl) rfl #[.int .i64 a1] rfl (by (try simp only [List.map_toArray, List.map_cons, List.map_nil]); first | done | rfl | (simp only [List.length_drop, List.length_take]; rfl) | (simp [Act.eval, *]; done) | (simp [Act.eval, *]; unfold wrap64; omega)) ?_; (with_reducible refine (xansi_CursorDown.calls a1 t118 _ ?side1 A7.out).mono ?_); (case side1 => exact HLD.out.below (by repeat (first | (with_reducible first | exact HB.out | apply below_alloc | apply Go.Proofs.YtakjcihjkagnfaaDoor.Ext.below_bytes | apply pw_below_drewN | apply below_drew1) | exact HB.out))); rintro e w8 ⟨rfl, hb⟩; refine ⟨_, rfl, ?_⟩; have n0_ := Aside0.mk (below_step (by repeat (first | (with_reducible first | exact HB.out | apply below_alloc | apply Go.Proofs.YtakjcihjkagnfaaDoor.Ext.below_bytes | apply pw_below_drewN | apply below_drew1) | exact HB.out)) hb); clear HB; have HB := n0_; clear n0_; (try clear hb); (try clear hb2); (try clear hk); (try clear hi)))
      go_ret
      exact ⟨by first | rfl | (simp [errW_none, errW_some] <;> rfl) | (simp [*, errW_none, errW_some] <;> rfl), by repeat (first | (with_reducible first | exact HB.out | apply below_alloc | apply Go.Proofs.YtakjcihjkagnfaaDoor.Ext.below_bytes | apply pw_below_drewN | apply below_drew1) | exact HB.out)⟩
    · rw [if_neg c6] at H
      have c6b0 : (a0 == 1) = false := beq_eq_false_iff_ne.mpr c6
      have c6b1 : (a0 != 1) = true := bne_iff_ne.mpr c6
      by_cases c9 : a0 = 2
      · rw [if_pos c9] at H
        have c9b0 : (a0 == 2) = true := beq_iff_eq.mpr c9
        have c9b1 : (a0 != 2) = false := bne_eq_false_iff_eq.mpr c9
        clear c9
        replace H := Option.bind_eq_some_iff.mp H
        obtain ⟨t119, A100, H⟩ := H
        replace H : (some t119) = some r := H
        have A10 := Aside0.mk A100
        clear A100
        obtain rfl := Option.some.inj H
        go_enter Tryd.func10, Tryd.ntmps10
        go_wp2_with (first | ((with_reducible refine gate_callee (f := 22) rfl ?_); refine goesL_ (some 19) rfl rfl Tryd.func22 (by kernel_rfl) rfl #[.int .i64 a1] rfl (by (try simp only [List.map_toArray, List.map_cons, List.map_nil]); first | done | rfl | (simp only [List.length_drop, List.length_take]; rfl) | (simp [Act.eval, *]; done) | (simp [Act.eval, *]; unfold wrap64; omega)) ?_; (with_reducible refine (xansi_CursorForward.calls a1 t119 _ ?side1 A10.out).mono ?_); (case side1 => exact HLD.out.below (by repeat (first | (with_reducible first | exact HB.out | apply below_alloc | apply Go.Proofs.YtakjcihjkagnfaaDoor.Ext.below_bytes | apply pw_below_drewN | apply below_drew1) | exact HB.out))); rintro e w11 ⟨rfl, hb⟩; refine ⟨_, rfl, ?_⟩; have n0_ := Aside0.mk (below_step (by repeat (first | (with_reducible first | exact HB.out | apply below_alloc | apply Go.Proofs.YtakjcihjkagnfaaDoor.Ext.below_bytes | apply pw_below_drewN | apply below_drew1) | exact HB.out)) hb); clear HB; have HB := n0_; clear n0_; (try clear hb); (try clear hb2); (try clear hk); (try clear hi)))
        go_ret
        exact ⟨by first | rfl | (simp [errW_none, errW_some] <;> rfl) | (simp [*, errW_none, errW_some] <;> rfl), by repeat (first | (with_reducible first | exact HB.out | apply below_alloc | apply Go.Proofs.YtakjcihjkagnfaaDoor.Ext.below_bytes | apply pw_below_drewN | apply below_drew1) | exact HB.out)⟩
      · rw [if_neg c9] at H
        have c9b0 : (a0 == 2) = false := beq_eq_false_iff_ne.mpr c9
        have c9b1 : (a0 != 2) = true := bne_iff_ne.mpr c9
        by_cases c12 : a0 = 3
        · rw [if_pos c12] at H
          have c12b0 : (a0 == 3) = true := beq_iff_eq.mpr c12
          have c12b1 : (a0 != 3) = false := bne_eq_false_iff_eq.mpr c12
          clear c12
          replace H := Option.bind_eq_some_iff.mp H
          obtain ⟨t120, A130, H⟩ := H
          replace H : (some t120) = some r := H
          have A13 := Aside0.mk A130
          clear A130
          obtain rfl := Option.some.inj H
          go_enter Tryd.func10, Tryd.ntmps10
          go_wp2_with (first | ((with_reducible refine gate_callee (f := 23) rfl ?_); refine goesL_ (some 23) rfl rfl Tryd.func23 (by kernel_rfl) rfl #[.int .i64 a1] rfl (by (try simp only [List.map_toArray, List.map_cons, List.map_nil]); first | done | rfl | (simp only [List.length_drop, List.length_take]; rfl) | (simp [Act.eval, *]; done) | (simp [Act.eval, *]; unfold wrap64; omega)) ?_; (with_reducible refine (xansi_CursorBackward.calls a1 t120 _ ?side1 A13.out).mono ?_); (case side1 => exact HLD.out.below (by repeat (first | (with_reducible first | exact HB.out | apply below_alloc | apply Go.Proofs.YtakjcihjkagnfaaDoor.Ext.below_bytes | apply pw_below_drewN | apply below_drew1) | exact HB.out))); rintro e w14 ⟨rfl, hb⟩; refine ⟨_, rfl, ?_⟩; have n0_ := Aside0.mk (below_step (by repeat (first | (with_reducible first | exact HB.out | apply below_alloc | apply Go.Proofs.YtakjcihjkagnfaaDoor.Ext.below_bytes | apply pw_below_drewN | apply below_drew1) | exact HB.out)) hb); clear HB; have HB := n0_; clear n0_; (try clear hb); (try clear hb2); (try clear hk); (try clear hi)))
          go_ret
          exact ⟨by first | rfl | (simp [errW_none, errW_some] <;> rfl) | (simp [*, errW_none, errW_some] <;> rfl), by repeat (first | (with_reducible first | exact HB.out | apply below_alloc | apply Go.Proofs.YtakjcihjkagnfaaDoor.Ext.below_bytes | apply pw_below_drewN | apply below_drew1) | exact HB.out)⟩
        · rw [if_neg c12] at H
          have c12b0 : (a0 == 3) = false := beq_eq_false_iff_ne.mpr c12
          have c12b1 : (a0 != 3) = true := bne_iff_ne.mpr c12
          by_cases c15 : a0 = 4
          · rw [if_pos c15] at H
            have c15b0 : (a0 == 4) = true := beq_iff_eq.mpr c15
            have c15b1 : (a0 != 4) = false := bne_eq_false_iff_eq.mpr c15
            clear c15
            replace H := Option.bind_eq_some_iff.mp H
            obtain ⟨t121, A160, H⟩ := H
            replace H : (some t121) = some r := H
            have A16 := Aside0.mk A160
            clear A160
            obtain rfl := Option.some.inj H
            go_enter Tryd.func10, Tryd.ntmps10
            go_wp2_with (first | ((with_reducible refine gate_callee (f := 24) rfl ?_); refine goesL_ (some 27) rfl rfl Tryd.func24 (by kernel_rfl) rfl #[.int .i64 a1] rfl (by (try simp only [List.map_toArray, List.map_cons, List.map_nil]); first | done | rfl | (simp only [List.length_drop, List.length_take]; rfl) | (simp [Act.eval, *]; done) | (simp [Act.eval, *]; unfold wrap64; omega)) ?_; (with_reducible refine (xansi_CursorNextLine.calls a1 t121 _ ?side1 A16.out).mono ?_); (case side1 => exact HLD.out.below (by repeat (first | (with_reducible first | exact HB.out | apply below_alloc | apply Go.Proofs.YtakjcihjkagnfaaDoor.Ext.below_bytes | apply pw_below_drewN | apply below_drew1) | exact HB.out))); rintro e w17 ⟨rfl, hb⟩; refine ⟨_, rfl, ?_⟩; have n0_ := Aside0.mk (below_step (by repeat (first | (with_reducible first | exact HB.out | apply below_alloc | apply Go.Proofs.YtakjcihjkagnfaaDoor.Ext.below_bytes | apply pw_below_drewN | apply below_drew1) | exact HB.out)) hb); clear HB; have HB := n0_; clear n0_; (try clear hb); (try clear hb2); (try clear hk); (try clear hi)))
            go_ret
            exact ⟨by first | rfl | (simp [errW_none, errW_some] <;> rfl) | (simp [*, errW_none, errW_some] <;> rfl), by repeat (first | (with_reducible first | exact HB.out | apply below_alloc | apply Go.Proofs.YtakjcihjkagnfaaDoor.Ext.below_bytes | apply pw_below_drewN | apply below_drew1) | exact HB.out)⟩
          · rw [if_neg c15] at H
            have c15b0 : (a0 == 4) = false := beq_eq_false_iff_ne.mpr c15
            have c15b1 : (a0 != 4) = true := bne_iff_ne.mpr c15
            by_cases c18 : a0 = 5
            · rw [if_pos c18] at H
              have c18b0 : (a0 == 5) = true := beq_iff_eq.mpr c18
              have c18b1 : (a0 != 5) = false := bne_eq_false_iff_eq.mpr c18
              clear c18
              replace H := Option.bind_eq_some_iff.mp H
              obtain ⟨t122, A190, H⟩ := H
              replace H : (some t122) = some r := H
              have A19 := Aside0.mk A190
              clear A190
              obtain rfl := Option.some.inj H
              go_enter Tryd.func10, Tryd.ntmps10
              go_wp2_with (first | ((with_reducible refine gate_callee (f := 25) rfl ?_); refine goesL_ (some 31) rfl rfl Tryd.func25 (by kernel_rfl) rfl #[.int .i64 a1] rfl (by (try simp only [List.map_toArray, List.map_cons, List.map_nil]); first | done | rfl | (simp only [List.length_drop, List.length_take]; rfl) | (simp [Act.eval, *]; done) | (simp [Act.eval, *]; unfold wrap64; omega)) ?_; (with_reducible refine (xansi_CursorPreviousLine.calls a1 t122 _ ?side1 A19.out).mono ?_); (case side1 => exact HLD.out.below (by repeat (first | (with_reducible first | exact HB.out | apply below_alloc | apply Go.Proofs.YtakjcihjkagnfaaDoor.Ext.below_bytes | apply pw_below_drewN | apply below_drew1) | exact HB.out))); rintro e w20 ⟨rfl, hb⟩; refine ⟨_, rfl, ?_⟩; have n0_ := Aside0.mk (below_step (by repeat (first | (with_reducible first | exact HB.out | apply below_alloc | apply Go.Proofs.YtakjcihjkagnfaaDoor.Ext.below_bytes | apply pw_below_drewN | apply below_drew1) | exact HB.out)) hb); clear HB; have HB := n0_; clear n0_; (try clear hb); (try clear hb2); (try clear hk); (try clear hi)))
              go_ret
              exact ⟨by first | rfl | (simp [errW_none, errW_some] <;> rfl) | (simp [*, errW_none, errW_some] <;> rfl), by repeat (first | (with_reducible first | exact HB.out | apply below_alloc | apply Go.Proofs.YtakjcihjkagnfaaDoor.Ext.below_bytes | apply pw_below_drewN | apply below_drew1) | exact HB.out)⟩
            · rw [if_neg c18] at H
              have c18b0 : (a0 == 5) = false := beq_eq_false_iff_ne.mpr c18
              have c18b1 : (a0 != 5) = true := bne_iff_ne.mpr c18
              by_cases c21 : a0 = 6
              · rw [if_pos c21] at H
                have c21b0 : (a0 == 6) = true := beq_iff_eq.mpr c21
                have c21b1 : (a0 != 6) = false := bne_eq_false_iff_eq.mpr c21
                clear c21
                replace H := Option.bind_eq_some_iff.mp H
                obtain ⟨t123, A220, H⟩ := H
                replace H : (some t123) = some r := H
                have A22 := Aside0.mk A220
                clear A220
                obtain rfl := Option.some.inj H
                go_enter Tryd.func10, Tryd.ntmps10
                go_wp2_with (first | ((with_reducible refine gate_callee (f := 26) rfl ?_); refine goesL_ (some 35) rfl rfl Tryd.func26 (by kernel_rfl) rfl #[.int .i64 a1] rfl (by (try simp only [List.map_toArray, List.map_cons, List.map_nil]); first | done | rfl | (simp only [List.length_drop, List.length_take]; rfl) | (simp [Act.eval, *]; done) | (simp [Act.eval, *]; unfold wrap64; omega)) ?_; (with_reducible refine (xansi_CursorHorizontalAbsolute.calls a1 t123 _ ?side1 A22.out).mono ?_); (case side1 => exact HLD.out.below (by repeat (first | (with_reducible first | exact HB.out | apply below_alloc | apply Go.Proofs.YtakjcihjkagnfaaDoor.Ext.below_bytes | apply pw_below_drewN | apply below_drew1) | exact HB.out))); rintro e w23 ⟨rfl, hb⟩; refine ⟨_, rfl, ?_⟩; have n0_ := Aside0.mk (below_step (by repeat (first | (with_reducible first | exact HB.out | apply below_alloc | apply Go.Proofs.YtakjcihjkagnfaaDoor.Ext.below_bytes | apply pw_below_drewN | apply below_drew1) | exact HB.out)) hb); clear HB; have HB := n0_; clear n0_; (try clear hb); (try clear hb2); (try clear hk); (try clear hi)))
                go_ret
                exact ⟨by first | rfl | (simp [errW_none, errW_some] <;> rfl) | (simp [*, errW_none, errW_some] <;> rfl), by repeat (first | (with_reducible first | exact HB.out | apply below_alloc | apply Go.Proofs.YtakjcihjkagnfaaDoor.Ext.below_bytes | apply pw_below_drewN | apply below_drew1) | exact HB.out)⟩
              · rw [if_neg c21] at H
                have c21b0 : (a0 == 6) = false := beq_eq_false_iff_ne.mpr c21
                have c21b1 : (a0 != 6) = true := bne_iff_ne.mpr c21
                by_cases c24 : a0 = 7
                · rw [if_pos c24] at H
                  have c24b0 : (a0 == 7) = true := beq_iff_eq.mpr c24
                  have c24b1 : (a0 != 7) = false := bne_eq_false_iff_eq.mpr c24
                  clear c24
                  replace H := Option.bind_eq_some_iff.mp H
                  obtain ⟨t124, A250, H⟩ := H
                  replace H : (some t124) = some r := H
                  have A25 := Aside0.mk A250
                  clear A250
                  obtain rfl := Option.some.inj H
                  go_enter Tryd.func10, Tryd.ntmps10
                  go_wp2_with (first | ((with_reducible refine gate_callee (f := 27) rfl ?_); refine goesL_ (some 39) rfl rfl Tryd.func27 (by kernel_rfl) rfl #[.int .i64 a1] rfl (by (try simp only [List.map_toArray, List.map_cons, List.map_nil]); first | done | rfl | (simp only [List.length_drop, List.length_take]; rfl) | (simp [Act.eval, *]; done) | (simp [Act.eval, *]; unfold wrap64; omega)) ?_; (with_reducible refine (xansi_CursorHorizontalForwardTab.calls a1 t124 _ ?side1 A25.out).mono ?_); (case side1 => exact HLD.out.below (by repeat (first | (with_reducible first | exact HB.out | apply below_alloc | apply Go.Proofs.YtakjcihjkagnfaaDoor.Ext.below_bytes | apply pw_below_drewN | apply below_drew1) | exact HB.out))); rintro e w26 ⟨rfl, hb⟩; refine ⟨_, rfl, ?_⟩; have n0_ := Aside0.mk (below_step (by repeat (first | (with_reducible first | exact HB.out | apply below_alloc | apply Go.Proofs.YtakjcihjkagnfaaDoor.Ext.below_bytes | apply pw_below_drewN | apply below_drew1) | exact HB.out)) hb); clear HB; have HB := n0_; clear n0_; (try clear hb); (try clear hb2); (try clear hk); (try clear hi)))
                  go_ret
                  exact ⟨by first | rfl | (simp [errW_none, errW_some] <;> rfl) | (simp [*, errW_none, errW_some] <;> rfl), by repeat (first | (with_reducible first | exact HB.out | apply below_alloc | apply Go.Proofs.YtakjcihjkagnfaaDoor.Ext.below_bytes | apply pw_below_drewN | apply below_drew1) | exact HB.out)⟩
                · rw [if_neg c24] at H
                  have c24b0 : (a0 == 7) = false := beq_eq_false_iff_ne.mpr c24
                  have c24b1 : (a0 != 7) = true := bne_iff_ne.mpr c24
                  by_cases c27 : a0 = 8
                  · rw [if_pos c27] at H
                    have c27b0 : (a0 == 8) = true := beq_iff_eq.mpr c27
                    have c27b1 : (a0 != 8) = false := bne_eq_false_iff_eq.mpr c27
                    clear c27
                    replace H := Option.bind_eq_some_iff.mp H
                    obtain ⟨t125, A280, H⟩ := H
                    replace H : (some t125) = some r := H
                    have A28 := Aside0.mk A280
                    clear A280
                    obtain rfl := Option.some.inj H
                    go_enter Tryd.func10, Tryd.ntmps10
                    go_wp2_with (first | ((with_reducible refine gate_callee (f := 28) rfl ?_); refine goesL_ (some 43) rfl rfl Tryd.func28 (by kernel_rfl) rfl #[.int .i64 a1] rfl (by (try simp only [List.map_toArray, List.map_cons, List.map_nil]); first | done | rfl | (simp only [List.length_drop, List.length_take]; rfl) | (simp [Act.eval, *]; done) | (simp [Act.eval, *]; unfold wrap64; omega)) ?_; (with_reducible refine (xansi_CursorBackwardTab.calls a1 t125 _ ?side1 A28.out).mono ?_); (case side1 => exact HLD.out.below (by repeat (first | (with_reducible first | exact HB.out | apply below_alloc | apply Go.Proofs.YtakjcihjkagnfaaDoor.Ext.below_bytes | apply pw_below_drewN | apply below_drew1) | exact HB.out))); rintro e w29 ⟨rfl, hb⟩; refine ⟨_, rfl, ?_⟩; have n0_ := Aside0.mk (below_step (by repeat (first | (with_reducible first | exact HB.out | apply below_alloc | apply Go.Proofs.YtakjcihjkagnfaaDoor.Ext.below_bytes | apply pw_below_drewN | apply below_drew1) | exact HB.out)) hb); clear HB; have HB := n0_; clear n0_; (try clear hb); (try clear hb2); (try clear hk); (try clear hi)))
                    go_ret
                    exact ⟨by first | rfl | (simp [errW_none, errW_some] <;> rfl) | (simp [*, errW_none, errW_some] <;> rfl), by repeat (first | (with_reducible first | exact HB.out | apply below_alloc | apply Go.Proofs.YtakjcihjkagnfaaDoor.Ext.below_bytes | apply pw_below_drewN | apply below_drew1) | exact HB.out)⟩
                  · rw [if_neg c27] at H
                    have c27b0 : (a0 == 8) = false := beq_eq_false_iff_ne.mpr c27
                    have c27b1 : (a0 != 8) = true := bne_iff_ne.mpr c27
                    by_cases c30 : a0 = 9
                    · rw [if_pos c30] at H
                      have c30b0 : (a0 == 9) = true := beq_iff_eq.mpr c30
                      have c30b1 : (a0 != 9) = false := bne_eq_false_iff_eq.mpr c30
                      clear c30
                      replace H := Option.bind_eq_some_iff.mp H
                      obtain ⟨t126, A310, H⟩ := H
                      replace H : (some t126) = some r := H
                      have A31 := Aside0.mk A310
                      clear A310
                      obtain rfl := Option.some.inj H
                      go_enter Tryd.func10, Tryd.ntmps10
                      go_wp2_with (first | ((with_reducible refine gate_callee (f := 29) rfl ?_); refine goesL_ (some 47) rfl rfl Tryd.func29 (by kernel_rfl) rfl #[.int .i64 a1] rfl (by (try simp only [List.map_toArray, List.map_cons, List.map_nil]); first | done | rfl | (simp only [List.length_drop, List.length_take]; rfl) | (simp [Act.eval, *]; done) | (simp [Act.eval, *]; unfold wrap64; omega)) ?_; (with_reducible refine (xansi_EraseCharacter.calls a1 t126 _ ?side1 A31.out).mono ?_); (case side1 => exact HLD.out.below (by repeat (first | (with_reducible first | exact HB.out | apply below_alloc | apply Go.Proofs.YtakjcihjkagnfaaDoor.Ext.below_bytes | apply pw_below_drewN | apply below_drew1) | exact HB.out))); rintro e w32 ⟨rfl, hb⟩; refine ⟨_, rfl, ?_⟩; have n0_ := Aside0.mk (below_step (by repeat (first | (with_reducible first | exact HB.out | apply below_alloc | apply Go.Proofs.YtakjcihjkagnfaaDoor.Ext.below_bytes | apply pw_below_drewN | apply below_drew1) | exact HB.out)) hb); clear HB; have HB := n0_; clear n0_; (try clear hb); (try clear hb2); (try clear hk); (try clear hi)))
                      go_ret
                      exact ⟨by first | rfl | (simp [errW_none, errW_some] <;> rfl) | (simp [*, errW_none, errW_some] <;> rfl), by repeat (first | (with_reducible first | exact HB.out | apply below_alloc | apply Go.Proofs.YtakjcihjkagnfaaDoor.Ext.below_bytes | apply pw_below_drewN | apply below_drew1) | exact HB.out)⟩
                    · rw [if_neg c30] at H
                      have c30b0 : (a0 == 9) = false := beq_eq_false_iff_ne.mpr c30
                      have c30b1 : (a0 != 9) = true := bne_iff_ne.mpr c30
                      by_cases c33 : a0 = 10
                      · rw [if_pos c33] at H
                        have c33b0 : (a0 == 10) = true := beq_iff_eq.mpr c33
                        have c33b1 : (a0 != 10) = false := bne_eq_false_iff_eq.mpr c33
                        clear c33
                        replace H := Option.bind_eq_some_iff.mp H
                        obtain ⟨t127, A340, H⟩ := H
                        replace H : (some t127) = some r := H
                        have A34 := Aside0.mk A340
                        clear A340
                        obtain rfl := Option.some.inj H
                        go_enter Tryd.func10, Tryd.ntmps10
                        go_wp2_with (first | ((with_reducible refine gate_callee (f := 30) rfl ?_); refine goesL_ (some 51) rfl rfl Tryd.func30 (by kernel_rfl) rfl #[.int .i64 a1] rfl (by (try simp only [List.map_toArray, List.map_cons, List.map_nil]); first | done | rfl | (simp only [List.length_drop, List.length_take]; rfl) | (simp [Act.eval, *]; done) | (simp [Act.eval, *]; unfold wrap64; omega)) ?_; (with_reducible refine (xansi_EraseDisplay.calls a1 t127 _ ?side1 A34.out).mono ?_); (case side1 => exact HLD.out.below (by repeat (first | (with_reducible first | exact HB.out | apply below_alloc | apply Go.Proofs.YtakjcihjkagnfaaDoor.Ext.below_bytes | apply pw_below_drewN | apply below_drew1) | exact HB.out))); rintro e w35 ⟨rfl, hb⟩; refine ⟨_, rfl, ?_⟩; have n0_ := Aside0.mk (below_step (by repeat (first | (with_reducible first | exact HB.out | apply below_alloc | apply Go.Proofs.YtakjcihjkagnfaaDoor.Ext.below_bytes | apply pw_below_drewN | apply below_drew1) | exact HB.out)) hb); clear HB; have HB := n0_; clear n0_; (try clear hb); (try clear hb2); (try clear hk); (try clear hi)))
                        go_ret
                        exact ⟨by first | rfl | (simp [errW_none, errW_some] <;> rfl) | (simp [*, errW_none, errW_some] <;> rfl), by repeat (first | (with_reducible first | exact HB.out | apply below_alloc | apply Go.Proofs.YtakjcihjkagnfaaDoor.Ext.below_bytes | apply pw_below_drewN | apply below_drew1) | exact HB.out)⟩
                      · rw [if_neg c33] at H
                        have c33b0 : (a0 == 10) = false := beq_eq_false_iff_ne.mpr c33
                        have c33b1 : (a0 != 10) = true := bne_iff_ne.mpr c33
                        by_cases c36 : a0 = 11
                        · rw [if_pos c36] at H
                          have c36b0 : (a0 == 11) = true := beq_iff_eq.mpr c36
                          have c36b1 : (a0 != 11) = false := bne_eq_false_iff_eq.mpr c36
                          clear c36
                          replace H := Option.bind_eq_some_iff.mp H
                          obtain ⟨t128, A370, H⟩ := H
                          replace H : (some t128) = some r := H
                          have A37 := Aside0.mk A370
                          clear A370
                          obtain rfl := Option.some.inj H
                          go_enter Tryd.func10, Tryd.ntmps10
                          go_wp2_with (first | ((with_reducible refine gate_callee (f := 31) rfl ?_); refine goesL_ (some 55) rfl rfl Tryd.func31 (by kernel_rfl) rfl #[.int .i64 a1] rfl (by (try simp only [List.map_toArray, List.map_cons, List.map_nil]); first | done | rfl | (simp only [List.length_drop, List.length_take]; rfl) | (simp [Act.eval, *]; done) | (simp [Act.eval, *]; unfold wrap64; omega)) ?_; (with_reducible refine (xansi_EraseLine.calls a1 t128 _ ?side1 A37.out).mono ?_); (case side1 => exact HLD.out.below (by repeat (first | (with_reducible first | exact HB.out | apply below_alloc | apply Go.Proofs.YtakjcihjkagnfaaDoor.Ext.below_bytes | apply pw_below_drewN | apply below_drew1) | exact HB.out))); rintro e w38 ⟨rfl, hb⟩; refine ⟨_, rfl, ?_⟩; have n0_ := Aside0.mk (below_step (by repeat (first | (with_reducible first | exact HB.out | apply below_alloc | apply Go.Proofs.YtakjcihjkagnfaaDoor.Ext.below_bytes | apply pw_below_drewN | apply below_drew1) | exact HB.out)) hb); clear HB; have HB := n0_; clear n0_; (try clear hb); (try clear hb2); (try clear hk); (try clear hi)))
                          go_ret
                          exact ⟨by first | rfl | (simp [errW_none, errW_some] <;> rfl) | (simp [*, errW_none, errW_some] <;> rfl), by repeat (first | (with_reducible first | exact HB.out | apply below_alloc | apply Go.Proofs.YtakjcihjkagnfaaDoor.Ext.below_bytes | apply pw_below_drewN | apply below_drew1) | exact HB.out)⟩
                        · rw [if_neg c36] at H
                          have c36b0 : (a0 == 11) = false := beq_eq_false_iff_ne.mpr c36
                          have c36b1 : (a0 != 11) = true := bne_iff_ne.mpr c36
                          by_cases c39 : a0 = 12
                          · rw [if_pos c39] at H
                            have c39b0 : (a0 == 12) = true := beq_iff_eq.mpr c39
                            have c39b1 : (a0 != 12) = false := bne_eq_false_iff_eq.mpr c39
                            clear c39
                            replace H := Option.bind_eq_some_iff.mp H
                            obtain ⟨t129, A400, H⟩ := H
                            replace H : (some t129) = some r := H
                            have A40 := Aside0.mk A400
                            clear A400
                            obtain rfl := Option.some.inj H
                            go_enter Tryd.func10, Tryd.ntmps10
                            go_wp2_with (first | ((with_reducible refine gate_callee (f := 32) rfl ?_); refine goesL_ (some 59) rfl rfl Tryd.func32 (by kernel_rfl) rfl #[.int .i64 a1] rfl (by (try simp only [List.map_toArray, List.map_cons, List.map_nil]); first | done | rfl | (simp only [List.length_drop, List.length_take]; rfl) | (simp [Act.eval, *]; done) | (simp [Act.eval, *]; unfold wrap64; omega)) ?_; (with_reducible refine (xansi_ScrollUp.calls a1 t129 _ ?side1 A40.out).mono ?_); (case side1 => exact HLD.out.below (by repeat (first | (with_reducible first | exact HB.out | apply below_alloc | apply Go.Proofs.YtakjcihjkagnfaaDoor.Ext.below_bytes | apply pw_below_drewN | apply below_drew1) | exact HB.out))); rintro e w41 ⟨rfl, hb⟩; refine ⟨_, rfl, ?_⟩; have n0_ := Aside0.mk (below_step (by repeat (first | (with_reducible first | exact HB.out | apply below_alloc | apply Go.Proofs.YtakjcihjkagnfaaDoor.Ext.below_bytes | apply pw_below_drewN | apply below_drew1) | exact HB.out)) hb); clear HB; have HB := n0_; clear n0_; (try clear hb); (try clear hb2); (try clear hk); (try clear hi)))
                            go_ret
                            exact ⟨by first | rfl | (simp [errW_none, errW_some] <;> rfl) | (simp [*, errW_none, errW_some] <;> rfl), by repeat (first | (with_reducible first | exact HB.out | apply below_alloc | apply Go.Proofs.YtakjcihjkagnfaaDoor.Ext.below_bytes | apply pw_below_drewN | apply below_drew1) | exact HB.out)⟩
                          · rw [if_neg c39] at H
                            have c39b0 : (a0 == 12) = false := beq_eq_false_iff_ne.mpr c39
                            have c39b1 : (a0 != 12) = true := bne_iff_ne.mpr c39
                            by_cases c42 : a0 = 13
                            · rw [if_pos c42] at H
                              have c42b0 : (a0 == 13) = true := beq_iff_eq.mpr c42
                              have c42b1 : (a0 != 13) = false := bne_eq_false_iff_eq.mpr c42
                              clear c42
                              replace H := Option.bind_eq_some_iff.mp H
                              obtain ⟨t130, A430, H⟩ := H
                              replace H : (some t130) = some r := H
                              have A43 := Aside0.mk A430
                              clear A430
                              obtain rfl := Option.some.inj H
                              go_enter Tryd.func10, Tryd.ntmps10
                              go_wp2_with (first | ((with_reducible refine gate_callee (f := 33) rfl ?_); refine goesL_ (some 63) rfl rfl Tryd.func33 (by kernel_rfl) rfl #[.int .i64 a1] rfl (by (try simp only [List.map_toArray, List.map_cons, List.map_nil]); first | done | rfl | (simp only [List.length_drop, List.length_take]; rfl) | (simp [Act.eval, *]; done) | (simp [Act.eval, *]; unfold wrap64; omega)) ?_; (with_reducible refine (xansi_ScrollDown.calls a1 t130 _ ?side1 A43.out).mono ?_); (case side1 => exact HLD.out.below (by repeat (first | (with_reducible first | exact HB.out | apply below_alloc | apply Go.Proofs.YtakjcihjkagnfaaDoor.Ext.below_bytes | apply pw_below_drewN | apply below_drew1) | exact HB.out))); rintro e w44 ⟨rfl, hb⟩; refine ⟨_, rfl, ?_⟩; have n0_ := Aside0.mk (below_step (by repeat (first | (with_reducible first | exact HB.out | apply below_alloc | apply Go.Proofs.YtakjcihjkagnfaaDoor.Ext.below_bytes | apply pw_below_drewN | apply below_drew1) | exact HB.out)) hb); clear HB; have HB := n0_; clear n0_; (try clear hb); (try clear hb2); (try clear hk); (try clear hi)))
                              go_ret
                              exact ⟨by first | rfl | (simp [errW_none, errW_some] <;> rfl) | (simp [*, errW_none, errW_some] <;> rfl), by repeat (first | (with_reducible first | exact HB.out | apply below_alloc | apply Go.Proofs.YtakjcihjkagnfaaDoor.Ext.below_bytes | apply pw_below_drewN | apply below_drew1) | exact HB.out)⟩
                            · rw [if_neg c42] at H
                              have c42b0 : (a0 == 13) = false := beq_eq_false_iff_ne.mpr c42
                              have c42b1 : (a0 != 13) = true := bne_iff_ne.mpr c42
                              by_cases c45 : a0 = 14
                              · rw [if_pos c45] at H
                                have c45b0 : (a0 == 14) = true := beq_iff_eq.mpr c45
                                have c45b1 : (a0 != 14) = false := bne_eq_false_iff_eq.mpr c45
                                clear c45
                                replace H := Option.bind_eq_some_iff.mp H
                                obtain ⟨t131, A460, H⟩ := H
                                replace H : (some t131) = some r := H
                                have A46 := Aside0.mk A460
                                clear A460
                                obtain rfl := Option.some.inj H
                                go_enter Tryd.func10, Tryd.ntmps10
                                go_wp2_with (first | ((with_reducible refine gate_callee (f := 34) rfl ?_); refine goesL_ (some 67) rfl rfl Tryd.func34 (by kernel_rfl) rfl #[.int .i64 a1] rfl (by (try simp only [List.map_toArray, List.map_cons, List.map_nil]); first | done | rfl | (simp only [List.length_drop, List.length_take]; rfl) | (simp [Act.eval, *]; done) | (simp [Act.eval, *]; unfold wrap64; omega)) ?_; (with_reducible refine (xansi_InsertLine.calls a1 t131 _ ?side1 A46.out).mono ?_); (case side1 => exact HLD.out.below (by repeat (first | (with_reducible first | exact HB.out | apply below_alloc | apply Go.Proofs.YtakjcihjkagnfaaDoor.Ext.below_bytes | apply pw_below_drewN | apply below_drew1) | exact HB.out))); rintro e w47 ⟨rfl, hb⟩; refine ⟨_, rfl, ?_⟩; have n0_ := Aside0.mk (below_step (by repeat (first | (with_reducible first | exact HB.out | apply below_alloc | apply Go.Proofs.YtakjcihjkagnfaaDoor.Ext.below_bytes | apply pw_below_drewN | apply below_drew1) | exact HB.out)) hb); clear HB; have HB := n0_; clear n0_; (try clear hb); (try clear hb2); (try clear hk); (try clear hi)))
                                go_ret
                                exact ⟨by first | rfl | (simp [errW_none, errW_some] <;> rfl) | (simp [*, errW_none, errW_some] <;> rfl), by repeat (first | (with_reducible first | exact HB.out | apply below_alloc | apply Go.Proofs.YtakjcihjkagnfaaDoor.Ext.below_bytes | apply pw_below_drewN | apply below_drew1) | exact HB.out)⟩
                              · rw [if_neg c45] at H
                                have c45b0 : (a0 == 14) = false := beq_eq_false_iff_ne.mpr c45
                                have c45b1 : (a0 != 14) = true := bne_iff_ne.mpr c45
                                by_cases c48 : a0 = 15
                                · rw [if_pos c48] at H
                                  have c48b0 : (a0 == 15) = true := beq_iff_eq.mpr c48
                                  have c48b1 : (a0 != 15) = false := bne_eq_false_iff_eq.mpr c48
                                  clear c48
                                  replace H := Option.bind_eq_some_iff.mp H
                                  obtain ⟨t132, A490, H⟩ := H
                                  replace H : (some t132) = some r := H
                                  have A49 := Aside0.mk A490
                                  clear A490
                                  obtain rfl := Option.some.inj H
                                  go_enter Tryd.func10, Tryd.ntmps10
                                  go_wp2_with (first | ((with_reducible refine gate_callee (f := 35) rfl ?_); refine goesL_ (some 71) rfl rfl Tryd.func35 (by kernel_rfl) rfl #[.int .i64 a1] rfl (by (try simp only [List.map_toArray, List.map_cons, List.map_nil]); first | done | rfl | (simp only [List.length_drop, List.length_take]; rfl) | (simp [Act.eval, *]; done) | (simp [Act.eval, *]; unfold wrap64; omega)) ?_; (with_reducible refine (xansi_DeleteLine.calls a1 t132 _ ?side1 A49.out).mono ?_); (case side1 => exact HLD.out.below (by repeat (first | (with_reducible first | exact HB.out | apply below_alloc | apply Go.Proofs.YtakjcihjkagnfaaDoor.Ext.below_bytes | apply pw_below_drewN | apply below_drew1) | exact HB.out))); rintro e w50 ⟨rfl, hb⟩; refine ⟨_, rfl, ?_⟩; have n0_ := Aside0.mk (below_step (by repeat (first | (with_reducible first | exact HB.out | apply below_alloc | apply Go.Proofs.YtakjcihjkagnfaaDoor.Ext.below_bytes | apply pw_below_drewN | apply below_drew1) | exact HB.out)) hb); clear HB; have HB := n0_; clear n0_; (try clear hb); (try clear hb2); (try clear hk); (try clear hi)))
                                  go_ret
                                  exact ⟨by first | rfl | (simp [errW_none, errW_some] <;> rfl) | (simp [*, errW_none, errW_some] <;> rfl), by repeat (first | (with_reducible first | exact HB.out | apply below_alloc | apply Go.Proofs.YtakjcihjkagnfaaDoor.Ext.below_bytes | apply pw_below_drewN | apply below_drew1) | exact HB.out)⟩
                                · rw [if_neg c48] at H
                                  have c48b0 : (a0 == 15) = false := beq_eq_false_iff_ne.mpr c48
                                  have c48b1 : (a0 != 15) = true := bne_iff_ne.mpr c48
                                  by_cases c51 : a0 = 16
                                  · rw [if_pos c51] at H
                                    have c51b0 : (a0 == 16) = true := beq_iff_eq.mpr c51
                                    have c51b1 : (a0 != 16) = false := bne_eq_false_iff_eq.mpr c51
                                    clear c51
                                    replace H := Option.bind_eq_some_iff.mp H
                                    obtain ⟨t133, A520, H⟩ := H
                                    replace H : (some t133) = some r := H
                                    have A52 := Aside0.mk A520
                                    clear A520
                                    obtain rfl := Option.some.inj H
                                    go_enter Tryd.func10, Tryd.ntmps10
                                    go_wp2_with (first | ((with_reducible refine gate_callee (f := 36) rfl ?_); refine goesL_ (some 75) rfl rfl Tryd.func36 (by kernel_rfl) rfl #[.int .i64 a1] rfl (by (try simp only [List.map_toArray, List.map_cons, List.map_nil]); first | done | rfl | (simp only [List.length_drop, List.length_take]; rfl) | (simp [Act.eval, *]; done) | (simp [Act.eval, *]; unfold wrap64; omega)) ?_; (with_reducible refine (xansi_InsertCharacter.calls a1 t133 _ ?side1 A52.out).mono ?_); (case side1 => exact HLD.out.below (by repeat (first | (with_reducible first | exact HB.out | apply below_alloc | apply Go.Proofs.YtakjcihjkagnfaaDoor.Ext.below_bytes | apply pw_below_drewN | apply below_drew1) | exact HB.out))); rintro e w53 ⟨rfl, hb⟩; refine ⟨_, rfl, ?_⟩; have n0_ := Aside0.mk (below_step (by repeat (first | (with_reducible first | exact HB.out | apply below_alloc | apply Go.Proofs.YtakjcihjkagnfaaDoor.Ext.below_bytes | apply pw_below_drewN | apply below_drew1) | exact HB.out)) hb); clear HB; have HB := n0_; clear n0_; (try clear hb); (try clear hb2); (try clear hk); (try clear hi)))
                                    go_ret
                                    exact ⟨by first | rfl | (simp [errW_none, errW_some] <;> rfl) | (simp [*, errW_none, errW_some] <;> rfl), by repeat (first | (with_reducible first | exact HB.out | apply below_alloc | apply Go.Proofs.YtakjcihjkagnfaaDoor.Ext.below_bytes | apply pw_below_drewN | apply below_drew1) | exact HB.out)⟩
                                  · rw [if_neg c51] at H
                                    have c51b0 : (a0 == 16) = false := beq_eq_false_iff_ne.mpr c51
                                    have c51b1 : (a0 != 16) = true := bne_iff_ne.mpr c51
                                    by_cases c54 : a0 = 17
                                    · rw [if_pos c54] at H
                                      have c54b0 : (a0 == 17) = true := beq_iff_eq.mpr c54
                                      have c54b1 : (a0 != 17) = false := bne_eq_false_iff_eq.mpr c54
                                      clear c54
                                      replace H := Option.bind_eq_some_iff.mp H
                                      obtain ⟨t134, A550, H⟩ := H
                                      replace H : (some t134) = some r := H
                                      have A55 := Aside0.mk A550
                                      clear A550
                                      obtain rfl := Option.some.inj H
                                      go_enter Tryd.func10, Tryd.ntmps10
                                      go_wp2_with (first | ((with_reducible refine gate_callee (f := 37) rfl ?_); refine goesL_ (some 79) rfl rfl Tryd.func37 (by kernel_rfl) rfl #[.int .i64 a1] rfl (by (try simp only [List.map_toArray, List.map_cons, List.map_nil]); first | done | rfl | (simp only [List.length_drop, List.length_take]; rfl) | (simp [Act.eval, *]; done) | (simp [Act.eval, *]; unfold wrap64; omega)) ?_; (with_reducible refine (xansi_DeleteCharacter.calls a1 t134 _ ?side1 A55.out).mono ?_); (case side1 => exact HLD.out.below (by repeat (first | (with_reducible first | exact HB.out | apply below_alloc | apply Go.Proofs.YtakjcihjkagnfaaDoor.Ext.below_bytes | apply pw_below_drewN | apply below_drew1) | exact HB.out))); rintro e w56 ⟨rfl, hb⟩; refine ⟨_, rfl, ?_⟩; have n0_ := Aside0.mk (below_step (by repeat (first | (with_reducible first | exact HB.out | apply below_alloc | apply Go.Proofs.YtakjcihjkagnfaaDoor.Ext.below_bytes | apply pw_below_drewN | apply below_drew1) | exact HB.out)) hb); clear HB; have HB := n0_; clear n0_; (try clear hb); (try clear hb2); (try clear hk); (try clear hi)))
                                      go_ret
                                      exact ⟨by first | rfl | (simp [errW_none, errW_some] <;> rfl) | (simp [*, errW_none, errW_some] <;> rfl), by repeat (first | (with_reducible first | exact HB.out | apply below_alloc | apply Go.Proofs.YtakjcihjkagnfaaDoor.Ext.below_bytes | apply pw_below_drewN | apply below_drew1) | exact HB.out)⟩
                                    · rw [if_neg c54] at H
                                      have c54b0 : (a0 == 17) = false := beq_eq_false_iff_ne.mpr c54
                                      have c54b1 : (a0 != 17) = true := bne_iff_ne.mpr c54
                                      by_cases c57 : a0 = 18
                                      · rw [if_pos c57] at H
                                        have c57b0 : (a0 == 18) = true := beq_iff_eq.mpr c57
                                        have c57b1 : (a0 != 18) = false := bne_eq_false_iff_eq.mpr c57
                                        clear c57
                                        replace H := Option.bind_eq_some_iff.mp H
                                        obtain ⟨t135, A580, H⟩ := H
                                        replace H : (some t135) = some r := H
                                        have A58 := Aside0.mk A580
                                        clear A580
                                        obtain rfl := Option.some.inj H
                                        go_enter Tryd.func10, Tryd.ntmps10
                                        go_wp2_with (first | ((with_reducible refine gate_callee (f := 38) rfl ?_); refine goesL_ (some 83) rfl rfl Tryd.func38 (by kernel_rfl) rfl #[.int .i64 a1] rfl (by (try simp only [List.map_toArray, List.map_cons, List.map_nil]); first | done | rfl | (simp only [List.length_drop, List.length_take]; rfl) | (simp [Act.eval, *]; done) | (simp [Act.eval, *]; unfold wrap64; omega)) ?_; (with_reducible refine (xansi_VerticalPositionAbsolute.calls a1 t135 _ ?side1 A58.out).mono ?_); (case side1 => exact HLD.out.below (by repeat (first | (with_reducible first | exact HB.out | apply below_alloc | apply Go.Proofs.YtakjcihjkagnfaaDoor.Ext.below_bytes | apply pw_below_drewN | apply below_drew1) | exact HB.out))); rintro e w59 ⟨rfl, hb⟩; refine ⟨_, rfl, ?_⟩; have n0_ := Aside0.mk (below_step (by repeat (first | (with_reducible first | exact HB.out | apply below_alloc | apply Go.Proofs.YtakjcihjkagnfaaDoor.Ext.below_bytes | apply pw_below_drewN | apply below_drew1) | exact HB.out)) hb); clear HB; have HB := n0_; clear n0_; (try clear hb); (try clear hb2); (try clear hk); (try clear hi)))
                                        go_ret
                                        exact ⟨by first | rfl | (simp [errW_none, errW_some] <;> rfl) | (simp [*, errW_none, errW_some] <;> rfl), by repeat (first | (with_reducible first | exact HB.out | apply below_alloc | apply Go.Proofs.YtakjcihjkagnfaaDoor.Ext.below_bytes | apply pw_below_drewN | apply below_drew1) | exact HB.out)⟩
                                      · rw [if_neg c57] at H
                                        have c57b0 : (a0 == 18) = false := beq_eq_false_iff_ne.mpr c57
                                        have c57b1 : (a0 != 18) = true := bne_iff_ne.mpr c57
                                        by_cases c60 : a0 = 19
                                        · rw [if_pos c60] at H
                                          have c60b0 : (a0 == 19) = true := beq_iff_eq.mpr c60
                                          have c60b1 : (a0 != 19) = false := bne_eq_false_iff_eq.mpr c60
                                          clear c60
                                          replace H := Option.bind_eq_some_iff.mp H
                                          obtain ⟨t136, A610, H⟩ := H
                                          replace H : (some t136) = some r := H
                                          have A61 := Aside0.mk A610
                                          clear A610
                                          obtain rfl := Option.some.inj H
                                          go_enter Tryd.func10, Tryd.ntmps10
                                          go_wp2_with (first | ((with_reducible refine gate_callee (f := 39) rfl ?_); refine goesL_ (some 87) rfl rfl Tryd.func39 (by kernel_rfl) rfl #[.int .i64 a1] rfl (by (try simp only [List.map_toArray, List.map_cons, List.map_nil]); first | done | rfl | (simp only [List.length_drop, List.length_take]; rfl) | (simp [Act.eval, *]; done) | (simp [Act.eval, *]; unfold wrap64; omega)) ?_; (with_reducible refine (xansi_VerticalPositionRelative.calls a1 t136 _ ?side1 A61.out).mono ?_); (case side1 => exact HLD.out.below (by repeat (first | (with_reducible first | exact HB.out | apply below_alloc | apply Go.Proofs.YtakjcihjkagnfaaDoor.Ext.below_bytes | apply pw_below_drewN | apply below_drew1) | exact HB.out))); rintro e w62 ⟨rfl, hb⟩; refine ⟨_, rfl, ?_⟩; have n0_ := Aside0.mk (below_step (by repeat (first | (with_reducible first | exact HB.out | apply below_alloc | apply Go.Proofs.YtakjcihjkagnfaaDoor.Ext.below_bytes | apply pw_below_drewN | apply below_drew1) | exact HB.out)) hb); clear HB; have HB := n0_; clear n0_; (try clear hb); (try clear hb2); (try clear hk); (try clear hi)))
                                          go_ret
                                          exact ⟨by first | rfl | (simp [errW_none, errW_some] <;> rfl) | (simp [*, errW_none, errW_some] <;> rfl), by repeat (first | (with_reducible first | exact HB.out | apply below_alloc | apply Go.Proofs.YtakjcihjkagnfaaDoor.Ext.below_bytes | apply pw_below_drewN | apply below_drew1) | exact HB.out)⟩
                                        · rw [if_neg c60] at H
                                          have c60b0 : (a0 == 19) = false := beq_eq_false_iff_ne.mpr c60
                                          have c60b1 : (a0 != 19) = true := bne_iff_ne.mpr c60
                                          by_cases c63 : a0 = 20
                                          · rw [if_pos c63] at H
                                            have c63b0 : (a0 == 20) = true := beq_iff_eq.mpr c63
                                            have c63b1 : (a0 != 20) = false := bne_eq_false_iff_eq.mpr c63
                                            clear c63
                                            replace H := Option.bind_eq_some_iff.mp H
                                            obtain ⟨t137, A640, H⟩ := H
                                            replace H : (some t137) = some r := H
                                            have A64 := Aside0.mk A640
                                            clear A640
                                            obtain rfl := Option.some.inj H
                                            go_enter Tryd.func10, Tryd.ntmps10
                                            go_wp2_with (first | ((with_reducible refine gate_callee (f := 40) rfl ?_); refine goesL_ (some 91) rfl rfl Tryd.func40 (by kernel_rfl) rfl #[.int .i64 a1] rfl (by (try simp only [List.map_toArray, List.map_cons, List.map_nil]); first | done | rfl | (simp only [List.length_drop, List.length_take]; rfl) | (simp [Act.eval, *]; done) | (simp [Act.eval, *]; unfold wrap64; omega)) ?_; (with_reducible refine (xansi_HorizontalPositionAbsolute.calls a1 t137 _ ?side1 A64.out).mono ?_); (case side1 => exact HLD.out.below (by repeat (first | (with_reducible first | exact HB.out | apply below_alloc | apply Go.Proofs.YtakjcihjkagnfaaDoor.Ext.below_bytes | apply pw_below_drewN | apply below_drew1) | exact HB.out))); rintro e w65 ⟨rfl, hb⟩; refine ⟨_, rfl, ?_⟩; have n0_ := Aside0.mk (below_step (by repeat (first | (with_reducible first | exact HB.out | apply below_alloc | apply Go.Proofs.YtakjcihjkagnfaaDoor.Ext.below_bytes | apply pw_below_drewN | apply below_drew1) | exact HB.out)) hb); clear HB; have HB := n0_; clear n0_; (try clear hb); (try clear hb2); (try clear hk); (try clear hi)))
                                            go_ret
                                            exact ⟨by first | rfl | (simp [errW_none, errW_some] <;> rfl) | (simp [*, errW_none, errW_some] <;> rfl), by repeat (first | (with_reducible first | exact HB.out | apply below_alloc | apply Go.Proofs.YtakjcihjkagnfaaDoor.Ext.below_bytes | apply pw_below_drewN | apply below_drew1) | exact HB.out)⟩
                                          · rw [if_neg c63] at H
                                            have c63b0 : (a0 == 20) = false := beq_eq_false_iff_ne.mpr c63
                                            have c63b1 : (a0 != 20) = true := bne_iff_ne.mpr c63
                                            by_cases c66 : a0 = 21
                                            · rw [if_pos c66] at H
                                              have c66b0 : (a0 == 21) = true := beq_iff_eq.mpr c66
                                              have c66b1 : (a0 != 21) = false := bne_eq_false_iff_eq.mpr c66
                                              clear c66
                                              replace H := Option.bind_eq_some_iff.mp H
                                              obtain ⟨t138, A670, H⟩ := H
                                              replace H : (some t138) = some r := H
                                              have A67 := Aside0.mk A670
                                              clear A670
                                              obtain rfl := Option.some.inj H
                                              go_enter Tryd.func10, Tryd.ntmps10
                                              go_wp2_with (first | ((with_reducible refine gate_callee (f := 41) rfl ?_); refine goesL_ (some 95) rfl rfl Tryd.func41 (by kernel_rfl) rfl #[.int .i64 a1] rfl (by (try simp only [List.map_toArray, List.map_cons, List.map_nil]); first | done | rfl | (simp only [List.length_drop, List.length_take]; rfl) | (simp [Act.eval, *]; done) | (simp [Act.eval, *]; unfold wrap64; omega)) ?_; (with_reducible refine (xansi_HorizontalPositionRelative.calls a1 t138 _ ?side1 A67.out).mono ?_); (case side1 => exact HLD.out.below (by repeat (first | (with_reducible first | exact HB.out | apply below_alloc | apply Go.Proofs.YtakjcihjkagnfaaDoor.Ext.below_bytes | apply pw_below_drewN | apply below_drew1) | exact HB.out))); rintro e w68 ⟨rfl, hb⟩; refine ⟨_, rfl, ?_⟩; have n0_ := Aside0.mk (below_step (by repeat (first | (with_reducible first | exact HB.out | apply below_alloc | apply Go.Proofs.YtakjcihjkagnfaaDoor.Ext.below_bytes | apply pw_below_drewN | apply below_drew1) | exact HB.out)) hb); clear HB; have HB := n0_; clear n0_; (try clear hb); (try clear hb2); (try clear hk); (try clear hi)))
                                              go_ret
                                              exact ⟨by first | rfl | (simp [errW_none, errW_some] <;> rfl) | (simp [*, errW_none, errW_some] <;> rfl), by repeat (first | (with_reducible first | exact HB.out | apply below_alloc | apply Go.Proofs.YtakjcihjkagnfaaDoor.Ext.below_bytes | apply pw_below_drewN | apply below_drew1) | exact HB.out)⟩
                                            · rw [if_neg c66] at H
                                              have c66b0 : (a0 == 21) = false := beq_eq_false_iff_ne.mpr c66
                                              have c66b1 : (a0 != 21) = true := bne_iff_ne.mpr c66
                                              by_cases c69 : a0 = 22
                                              · rw [if_pos c69] at H
                                                have c69b0 : (a0 == 22) = true := beq_iff_eq.mpr c69
                                                have c69b1 : (a0 != 22) = false := bne_eq_false_iff_eq.mpr c69
                                                clear c69
                                                replace H := Option.bind_eq_some_iff.mp H
                                                obtain ⟨t139, A700, H⟩ := H
                                                replace H : (some t139) = some r := H
                                                have A70 := Aside0.mk A700
                                                clear A700
                                                obtain rfl := Option.some.inj H
                                                go_enter Tryd.func10, Tryd.ntmps10
                                                go_wp2_with (first | ((with_reducible refine gate_callee (f := 42) rfl ?_); refine goesL_ (some 99) rfl rfl Tryd.func42 (by kernel_rfl) rfl #[.int .i64 a1] rfl (by (try simp only [List.map_toArray, List.map_cons, List.map_nil]); first | done | rfl | (simp only [List.length_drop, List.length_take]; rfl) | (simp [Act.eval, *]; done) | (simp [Act.eval, *]; unfold wrap64; omega)) ?_; (with_reducible refine (xansi_RepeatPreviousCharacter.calls a1 t139 _ ?side1 A70.out).mono ?_); (case side1 => exact HLD.out.below (by repeat (first | (with_reducible first | exact HB.out | apply below_alloc | apply Go.Proofs.YtakjcihjkagnfaaDoor.Ext.below_bytes | apply pw_below_drewN | apply below_drew1) | exact HB.out))); rintro e w71 ⟨rfl, hb⟩; refine ⟨_, rfl, ?_⟩; have n0_ := Aside0.mk (below_step (by repeat (first | (with_reducible first | exact HB.out | apply below_alloc | apply Go.Proofs.YtakjcihjkagnfaaDoor.Ext.below_bytes | apply pw_below_drewN | apply below_drew1) | exact HB.out)) hb); clear HB; have HB := n0_; clear n0_; (try clear hb); (try clear hb2); (try clear hk); (try clear hi)))
                                                go_ret
                                                exact ⟨by first | rfl | (simp [errW_none, errW_some] <;> rfl) | (simp [*, errW_none, errW_some] <;> rfl), by repeat (first | (with_reducible first | exact HB.out | apply below_alloc | apply Go.Proofs.YtakjcihjkagnfaaDoor.Ext.below_bytes | apply pw_below_drewN | apply below_drew1) | exact HB.out)⟩
                                              · rw [if_neg c69] at H
                                                have c69b0 : (a0 == 22) = false := beq_eq_false_iff_ne.mpr c69
                                                have c69b1 : (a0 != 22) = true := bne_iff_ne.mpr c69
                                                by_cases c72 : a0 = 23
                                                · rw [if_pos c72] at H
                                                  have c72b0 : (a0 == 23) = true := beq_iff_eq.mpr c72
                                                  have c72b1 : (a0 != 23) = false := bne_eq_false_iff_eq.mpr c72
                                                  clear c72
                                                  replace H := Option.bind_eq_some_iff.mp H
                                                  obtain ⟨t140, A730, H⟩ := H
                                                  replace H : (some t140) = some r := H
                                                  have A73 := Aside0.mk A730
                                                  clear A730
                                                  obtain rfl := Option.some.inj H
                                                  go_enter Tryd.func10, Tryd.ntmps10
                                                  go_wp2_with (first | ((with_reducible refine gate_callee (f := 43) rfl ?_); refine goesL_ (some 103) rfl rfl Tryd.func43 (by kernel_rfl) rfl #[.int .i64 a1] rfl (by (try simp only [List.map_toArray, List.map_cons, List.map_nil]); first | done | rfl | (simp only [List.length_drop, List.length_take]; rfl) | (simp [Act.eval, *]; done) | (simp [Act.eval, *]; unfold wrap64; omega)) ?_; (with_reducible refine (xansi_SetCursorStyle.calls a1 t140 _ ?side1 A73.out).mono ?_); (case side1 => exact HLD.out.below (by repeat (first | (with_reducible first | exact HB.out | apply below_alloc | apply Go.Proofs.YtakjcihjkagnfaaDoor.Ext.below_bytes | apply pw_below_drewN | apply below_drew1) | exact HB.out))); rintro e w74 ⟨rfl, hb⟩; refine ⟨_, rfl, ?_⟩; have n0_ := Aside0.mk (below_step (by repeat (first | (with_reducible first | exact HB.out | apply below_alloc | apply Go.Proofs.YtakjcihjkagnfaaDoor.Ext.below_bytes | apply pw_below_drewN | apply below_drew1) | exact HB.out)) hb); clear HB; have HB := n0_; clear n0_; (try clear hb); (try clear hb2); (try clear hk); (try clear hi)))
                                                  go_ret
                                                  exact ⟨by first | rfl | (simp [errW_none, errW_some] <;> rfl) | (simp [*, errW_none, errW_some] <;> rfl), by repeat (first | (with_reducible first | exact HB.out | apply below_alloc | apply Go.Proofs.YtakjcihjkagnfaaDoor.Ext.below_bytes | apply pw_below_drewN | apply below_drew1) | exact HB.out)⟩
                                                · rw [if_neg c72] at H
                                                  have c72b0 : (a0 == 23) = false := beq_eq_false_iff_ne.mpr c72
                                                  have c72b1 : (a0 != 23) = true := bne_iff_ne.mpr c72
                                                  by_cases c75 : a0 = 24
                                                  · rw [if_pos c75] at H
                                                    have c75b0 : (a0 == 24) = true := beq_iff_eq.mpr c75
                                                    have c75b1 : (a0 != 24) = false := bne_eq_false_iff_eq.mpr c75
                                                    clear c75
                                                    replace H := Option.bind_eq_some_iff.mp H
                                                    obtain ⟨t141, A760, H⟩ := H
                                                    replace H : (some t141) = some r := H
                                                    have A76 := Aside0.mk A760
                                                    clear A760
                                                    obtain rfl := Option.some.inj H
                                                    go_enter Tryd.func10, Tryd.ntmps10
                                                    go_wp2_with (first | ((with_reducible refine gate_callee (f := 44) rfl ?_); refine goesL_ (some 107) rfl rfl Tryd.func44 (by kernel_rfl) rfl #[.int .i64 a1] rfl (by (try simp only [List.map_toArray, List.map_cons, List.map_nil]); first | done | rfl | (simp only [List.length_drop, List.length_take]; rfl) | (simp [Act.eval, *]; done) | (simp [Act.eval, *]; unfold wrap64; omega)) ?_; (with_reducible refine (xansi_TabClear.calls a1 t141 _ ?side1 A76.out).mono ?_); (case side1 => exact HLD.out.below (by repeat (first | (with_reducible first | exact HB.out | apply below_alloc | apply Go.Proofs.YtakjcihjkagnfaaDoor.Ext.below_bytes | apply pw_below_drewN | apply below_drew1) | exact HB.out))); rintro e w77 ⟨rfl, hb⟩; refine ⟨_, rfl, ?_⟩; have n0_ := Aside0.mk (below_step (by repeat (first | (with_reducible first | exact HB.out | apply below_alloc | apply Go.Proofs.YtakjcihjkagnfaaDoor.Ext.below_bytes | apply pw_below_drewN | apply below_drew1) | exact HB.out)) hb); clear HB; have HB := n0_; clear n0_; (try clear hb); (try clear hb2); (try clear hk); (try clear hi)))
                                                    go_ret
                                                    exact ⟨by first | rfl | (simp [errW_none, errW_some] <;> rfl) | (simp [*, errW_none, errW_some] <;> rfl), by repeat (first | (with_reducible first | exact HB.out | apply below_alloc | apply Go.Proofs.YtakjcihjkagnfaaDoor.Ext.below_bytes | apply pw_below_drewN | apply below_drew1) | exact HB.out)⟩
                                                  · rw [if_neg c75] at H
                                                    have c75b0 : (a0 == 24) = false := beq_eq_false_iff_ne.mpr c75
                                                    have c75b1 : (a0 != 24) = true := bne_iff_ne.mpr c75
                                                    by_cases c78 : a0 = 25
                                                    · rw [if_pos c78] at H
                                                      have c78b0 : (a0 == 25) = true := beq_iff_eq.mpr c78
                                                      have c78b1 : (a0 != 25) = false := bne_eq_false_iff_eq.mpr c78
                                                      clear c78
                                                      replace H := Option.bind_eq_some_iff.mp H
                                                      obtain ⟨t142, A790, H⟩ := H
                                                      replace H : (some t142) = some r := H
                                                      have A79 := Aside0.mk A790
                                                      clear A790
                                                      obtain rfl := Option.some.inj H
                                                      go_enter Tryd.func10, Tryd.ntmps10
                                                      go_wp2_with (first | ((with_reducible refine gate_callee (f := 45) rfl ?_); refine goesL_ (some 111) rfl rfl Tryd.func45 (by kernel_rfl) rfl #[.int .i64 a1] rfl (by (try simp only [List.map_toArray, List.map_cons, List.map_nil]); first | done | rfl | (simp only [List.length_drop, List.length_take]; rfl) | (simp [Act.eval, *]; done) | (simp [Act.eval, *]; unfold wrap64; omega)) ?_; (with_reducible refine (xansi_RequestPresentationStateReport.calls a1 t142 _ ?side1 A79.out).mono ?_); (case side1 => exact HLD.out.below (by repeat (first | (with_reducible first | exact HB.out | apply below_alloc | apply Go.Proofs.YtakjcihjkagnfaaDoor.Ext.below_bytes | apply pw_below_drewN | apply below_drew1) | exact HB.out))); rintro e w80 ⟨rfl, hb⟩; refine ⟨_, rfl, ?_⟩; have n0_ := Aside0.mk (below_step (by repeat (first | (with_reducible first | exact HB.out | apply below_alloc | apply Go.Proofs.YtakjcihjkagnfaaDoor.Ext.below_bytes | apply pw_below_drewN | apply below_drew1) | exact HB.out)) hb); clear HB; have HB := n0_; clear n0_; (try clear hb); (try clear hb2); (try clear hk); (try clear hi)))
                                                      go_ret
                                                      exact ⟨by first | rfl | (simp [errW_none, errW_some] <;> rfl) | (simp [*, errW_none, errW_some] <;> rfl), by repeat (first | (with_reducible first | exact HB.out | apply below_alloc | apply Go.Proofs.YtakjcihjkagnfaaDoor.Ext.below_bytes | apply pw_below_drewN | apply below_drew1) | exact HB.out)⟩
                                                    · rw [if_neg c78] at H
                                                      have c78b0 : (a0 == 25) = false := beq_eq_false_iff_ne.mpr c78
                                                      have c78b1 : (a0 != 25) = true := bne_iff_ne.mpr c78
                                                      by_cases c81 : a0 = 26
                                                      · rw [if_pos c81] at H
                                                        have c81b0 : (a0 == 26) = true := beq_iff_eq.mpr c81
                                                        have c81b1 : (a0 != 26) = false := bne_eq_false_iff_eq.mpr c81
                                                        clear c81
                                                        replace H := Option.bind_eq_some_iff.mp H
                                                        obtain ⟨t143, A820, H⟩ := H
                                                        replace H : (some t143) = some r := H
                                                        have A82 := Aside0.mk A820
                                                        clear A820
                                                        obtain rfl := Option.some.inj H
                                                        go_enter Tryd.func10, Tryd.ntmps10
                                                        go_wp2_with (first | ((with_reducible refine gate_callee (f := 46) rfl ?_); refine goesL_ (some 115) rfl rfl Tryd.func46 (by kernel_rfl) rfl #[.int .i64 a1] rfl (by (try simp only [List.map_toArray, List.map_cons, List.map_nil]); first | done | rfl | (simp only [List.length_drop, List.length_take]; rfl) | (simp [Act.eval, *]; done) | (simp [Act.eval, *]; unfold wrap64; omega)) ?_; (with_reducible refine (xansi_PushKittyKeyboard.calls a1 t143 _ ?side1 A82.out).mono ?_); (case side1 => exact HLD.out.below (by repeat (first | (with_reducible first | exact HB.out | apply below_alloc | apply Go.Proofs.YtakjcihjkagnfaaDoor.Ext.below_bytes | apply pw_below_drewN | apply below_drew1) | exact HB.out))); rintro e w83 ⟨rfl, hb⟩; refine ⟨_, rfl, ?_⟩; have n0_ := Aside0.mk (below_step (by repeat (first | (with_reducible first | exact HB.out | apply below_alloc | apply Go.Proofs.YtakjcihjkagnfaaDoor.Ext.below_bytes | apply pw_below_drewN | apply below_drew1) | exact HB.out)) hb); clear HB; have HB := n0_; clear n0_; (try clear hb); (try clear hb2); (try clear hk); (try clear hi)))
                                                        go_ret
                                                        exact ⟨by first | rfl | (simp [errW_none, errW_some] <;> rfl) | (simp [*, errW_none, errW_some] <;> rfl), by repeat (first | (with_reducible first | exact HB.out | apply below_alloc | apply Go.Proofs.YtakjcihjkagnfaaDoor.Ext.below_bytes | apply pw_below_drewN | apply below_drew1) | exact HB.out)⟩
                                                      · rw [if_neg c81] at H
                                                        have c81b0 : (a0 == 26) = false := beq_eq_false_iff_ne.mpr c81
                                                        have c81b1 : (a0 != 26) = true := bne_iff_ne.mpr c81
                                                        by_cases c84 : a0 = 27
                                                        · rw [if_pos c84] at H
                                                          have c84b0 : (a0 == 27) = true := beq_iff_eq.mpr c84
                                                          have c84b1 : (a0 != 27) = false := bne_eq_false_iff_eq.mpr c84
                                                          clear c84
                                                          replace H := Option.bind_eq_some_iff.mp H
                                                          obtain ⟨t144, A850, H⟩ := H
                                                          replace H : (some t144) = some r := H
                                                          have A85 := Aside0.mk A850
                                                          clear A850
                                                          obtain rfl := Option.some.inj H
                                                          go_enter Tryd.func10, Tryd.ntmps10
                                                          go_wp2_with (first | ((with_reducible refine gate_callee (f := 47) rfl ?_); refine goesL_ (some 119) rfl rfl Tryd.func47 (by kernel_rfl) rfl #[.int .i64 a1] rfl (by (try simp only [List.map_toArray, List.map_cons, List.map_nil]); first | done | rfl | (simp only [List.length_drop, List.length_take]; rfl) | (simp [Act.eval, *]; done) | (simp [Act.eval, *]; unfold wrap64; omega)) ?_; (with_reducible refine (xansi_PopKittyKeyboard.calls a1 t144 _ ?side1 A85.out).mono ?_); (case side1 => exact HLD.out.below (by repeat (first | (with_reducible first | exact HB.out | apply below_alloc | apply Go.Proofs.YtakjcihjkagnfaaDoor.Ext.below_bytes | apply pw_below_drewN | apply below_drew1) | exact HB.out))); rintro e w86 ⟨rfl, hb⟩; refine ⟨_, rfl, ?_⟩; have n0_ := Aside0.mk (below_step (by repeat (first | (with_reducible first | exact HB.out | apply below_alloc | apply Go.Proofs.YtakjcihjkagnfaaDoor.Ext.below_bytes | apply pw_below_drewN | apply below_drew1) | exact HB.out)) hb); clear HB; have HB := n0_; clear n0_; (try clear hb); (try clear hb2); (try clear hk); (try clear hi)))
                                                          go_ret
                                                          exact ⟨by first | rfl | (simp [errW_none, errW_some] <;> rfl) | (simp [*, errW_none, errW_some] <;> rfl), by repeat (first | (with_reducible first | exact HB.out | apply below_alloc | apply Go.Proofs.YtakjcihjkagnfaaDoor.Ext.below_bytes | apply pw_below_drewN | apply below_drew1) | exact HB.out)⟩
                                                        · rw [if_neg c84] at H
                                                          have c84b0 : (a0 == 27) = false := beq_eq_false_iff_ne.mpr c84
                                                          have c84b1 : (a0 != 27) = true := bne_iff_ne.mpr c84
                                                          by_cases c87 : a0 = 28
                                                          · rw [if_pos c87] at H
                                                            have c87b0 : (a0 == 28) = true := beq_iff_eq.mpr c87
                                                            have c87b1 : (a0 != 28) = false := bne_eq_false_iff_eq.mpr c87
                                                            clear c87
                                                            replace H := Option.bind_eq_some_iff.mp H
                                                            obtain ⟨t145, A880, H⟩ := H
                                                            replace H : (some t145) = some r := H
                                                            have A88 := Aside0.mk A880
                                                            clear A880
                                                            obtain rfl := Option.some.inj H
                                                            go_enter Tryd.func10, Tryd.ntmps10
                                                            go_wp2_with (first | ((with_reducible refine gate_callee (f := 48) rfl ?_); refine goesL_ (some 123) rfl rfl Tryd.func48 (by kernel_rfl) rfl #[.int .i64 a1] rfl (by (try simp only [List.map_toArray, List.map_cons, List.map_nil]); first | done | rfl | (simp only [List.length_drop, List.length_take]; rfl) | (simp [Act.eval, *]; done) | (simp [Act.eval, *]; unfold wrap64; omega)) ?_; (with_reducible refine (xansi_QueryKeyModifierOptions.calls a1 t145 _ ?side1 A88.out).mono ?_); (case side1 => exact HLD.out.below (by repeat (first | (with_reducible first | exact HB.out | apply below_alloc | apply Go.Proofs.YtakjcihjkagnfaaDoor.Ext.below_bytes | apply pw_below_drewN | apply below_drew1) | exact HB.out))); rintro e w89 ⟨rfl, hb⟩; refine ⟨_, rfl, ?_⟩; have n0_ := Aside0.mk (below_step (by repeat (first | (with_reducible first | exact HB.out | apply below_alloc | apply Go.Proofs.YtakjcihjkagnfaaDoor.Ext.below_bytes | apply pw_below_drewN | apply below_drew1) | exact HB.out)) hb); clear HB; have HB := n0_; clear n0_; (try clear hb); (try clear hb2); (try clear hk); (try clear hi)))
                                                            go_ret
                                                            exact ⟨by first | rfl | (simp [errW_none, errW_some] <;> rfl) | (simp [*, errW_none, errW_some] <;> rfl), by repeat (first | (with_reducible first | exact HB.out | apply below_alloc | apply Go.Proofs.YtakjcihjkagnfaaDoor.Ext.below_bytes | apply pw_below_drewN | apply below_drew1) | exact HB.out)⟩
                                                          · rw [if_neg c87] at H
                                                            have c87b0 : (a0 == 28) = false := beq_eq_false_iff_ne.mpr c87
                                                            have c87b1 : (a0 != 28) = true := bne_iff_ne.mpr c87
                                                            by_cases c90 : a0 = 29
                                                            · rw [if_pos c90] at H
                                                              have c90b0 : (a0 == 29) = true := beq_iff_eq.mpr c90
                                                              have c90b1 : (a0 != 29) = false := bne_eq_false_iff_eq.mpr c90
                                                              clear c90
                                                              replace H := Option.bind_eq_some_iff.mp H
                                                              obtain ⟨t146, A910, H⟩ := H
                                                              replace H : (some t146) = some r := H
                                                              have A91 := Aside0.mk A910
                                                              clear A910
                                                              obtain rfl := Option.some.inj H
                                                              go_enter Tryd.func10, Tryd.ntmps10
                                                              go_wp2_with (first | ((with_reducible refine gate_callee (f := 49) rfl ?_); refine goesL_ (some 127) rfl rfl Tryd.func49 (by kernel_rfl) rfl #[.int .i64 a1] rfl (by (try simp only [List.map_toArray, List.map_cons, List.map_nil]); first | done | rfl | (simp only [List.length_drop, List.length_take]; rfl) | (simp [Act.eval, *]; done) | (simp [Act.eval, *]; unfold wrap64; omega)) ?_; (with_reducible refine (xansi_ResetKeyModifierOptions.calls a1 t146 _ A91.out).mono ?_); rintro e w' ⟨rfl, ⟨nd, rfl⟩⟩; refine ⟨_, rfl, ?_⟩))
                                                              go_ret
                                                              exact ⟨by first | rfl | (simp [errW_none, errW_some] <;> rfl) | (simp [*, errW_none, errW_some] <;> rfl), by repeat (first | (with_reducible first | exact HB.out | apply below_alloc | apply Go.Proofs.YtakjcihjkagnfaaDoor.Ext.below_bytes | apply pw_below_drewN | apply below_drew1) | exact HB.out)⟩
                                                            · rw [if_neg c90] at H
                                                              have c90b0 : (a0 == 29) = false := beq_eq_false_iff_ne.mpr c90
                                                              have c90b1 : (a0 != 29) = true := bne_iff_ne.mpr c90
                                                              by_cases c92 : a0 = 30
                                                              · rw [if_pos c92] at H
                                                                have c92b0 : (a0 == 30) = true := beq_iff_eq.mpr c92
                                                                have c92b1 : (a0 != 30) = false := bne_eq_false_iff_eq.mpr c92
                                                                clear c92
                                                                replace H := Option.bind_eq_some_iff.mp H
                                                                obtain ⟨t147, A930, H⟩ := H
                                                                replace H : (some t147) = some r := H
                                                                have A93 := Aside0.mk A930
                                                                clear A930
                                                                obtain rfl := Option.some.inj H
                                                                go_enter Tryd.func10, Tryd.ntmps10
                                                                go_wp2_with (first | ((with_reducible refine gate_callee (f := 50) rfl ?_); refine goesL_ (some 131) rfl rfl Tryd.func50 (by kernel_rfl) rfl #[.int .i64 a1] rfl (by (try simp only [List.map_toArray, List.map_cons, List.map_nil]); first | done | rfl | (simp only [List.length_drop, List.length_take]; rfl) | (simp [Act.eval, *]; done) | (simp [Act.eval, *]; unfold wrap64; omega)) ?_; (with_reducible refine (xansi_ModifyOtherKeys.calls a1 t147 _ ?side1 A93.out).mono ?_); (case side1 => exact HLD.out.below (by repeat (first | (with_reducible first | exact HB.out | apply below_alloc | apply Go.Proofs.YtakjcihjkagnfaaDoor.Ext.below_bytes | apply pw_below_drewN | apply below_drew1) | exact HB.out))); rintro e w94 ⟨rfl, hb⟩; refine ⟨_, rfl, ?_⟩; have n0_ := Aside0.mk (below_step (by repeat (first | (with_reducible first | exact HB.out | apply below_alloc | apply Go.Proofs.YtakjcihjkagnfaaDoor.Ext.below_bytes | apply pw_below_drewN | apply below_drew1) | exact HB.out)) hb); clear HB; have HB := n0_; clear n0_; (try clear hb); (try clear hb2); (try clear hk); (try clear hi)))
                                                                go_ret
                                                                exact ⟨by first | rfl | (simp [errW_none, errW_some] <;> rfl) | (simp [*, errW_none, errW_some] <;> rfl), by repeat (first | (with_reducible first | exact HB.out | apply below_alloc | apply Go.Proofs.YtakjcihjkagnfaaDoor.Ext.below_bytes | apply pw_below_drewN | apply below_drew1) | exact HB.out)⟩
                                                              · rw [if_neg c92] at H
                                                                have c92b0 : (a0 == 30) = false := beq_eq_false_iff_ne.mpr c92
                                                                have c92b1 : (a0 != 30) = true := bne_iff_ne.mpr c92
                                                                by_cases c95 : a0 = 31
                                                                · rw [if_pos c95] at H
                                                                  have c95b0 : (a0 == 31) = true := beq_iff_eq.mpr c95
                                                                  have c95b1 : (a0 != 31) = false := bne_eq_false_iff_eq.mpr c95
                                                                  clear c95
                                                                  replace H := Option.bind_eq_some_iff.mp H
                                                                  obtain ⟨t148, A960, H⟩ := H
                                                                  replace H : (some t148) = some r := H
                                                                  have A96 := Aside0.mk A960
                                                                  clear A960
                                                                  obtain rfl := Option.some.inj H
                                                                  go_enter Tryd.func10, Tryd.ntmps10
                                                                  go_wp2_with (first | ((with_reducible refine gate_callee (f := 51) rfl ?_); refine goesL_ (some 135) rfl rfl Tryd.func51 (by kernel_rfl) rfl #[.int .i64 a1] rfl (by (try simp only [List.map_toArray, List.map_cons, List.map_nil]); first | done | rfl | (simp only [List.length_drop, List.length_take]; rfl) | (simp [Act.eval, *]; done) | (simp [Act.eval, *]; unfold wrap64; omega)) ?_; (with_reducible refine (xansi_SetProgressBar.calls a1 t148 _ ?side1 A96.out).mono ?_); (case side1 => exact HLD.out.below (by repeat (first | (with_reducible first | exact HB.out | apply below_alloc | apply Go.Proofs.YtakjcihjkagnfaaDoor.Ext.below_bytes | apply pw_below_drewN | apply below_drew1) | exact HB.out))); rintro e w97 ⟨rfl, hb⟩; refine ⟨_, rfl, ?_⟩; have n0_ := Aside0.mk (below_step (by repeat (first | (with_reducible first | exact HB.out | apply below_alloc | apply Go.Proofs.YtakjcihjkagnfaaDoor.Ext.below_bytes | apply pw_below_drewN | apply below_drew1) | exact HB.out)) hb); clear HB; have HB := n0_; clear n0_; (try clear hb); (try clear hb2); (try clear hk); (try clear hi)))
                                                                  go_ret
                                                                  exact ⟨by first | rfl | (simp [errW_none, errW_some] <;> rfl) | (simp [*, errW_none, errW_some] <;> rfl), by repeat (first | (with_reducible first | exact HB.out | apply below_alloc | apply Go.Proofs.YtakjcihjkagnfaaDoor.Ext.below_bytes | apply pw_below_drewN | apply below_drew1) | exact HB.out)⟩
                                                                · rw [if_neg c95] at H
                                                                  have c95b0 : (a0 == 31) = false := beq_eq_false_iff_ne.mpr c95
                                                                  have c95b1 : (a0 != 31) = true := bne_iff_ne.mpr c95
                                                                  by_cases c98 : a0 = 32
                                                                  · rw [if_pos c98] at H
                                                                    have c98b0 : (a0 == 32) = true := beq_iff_eq.mpr c98
                                                                    have c98b1 : (a0 != 32) = false := bne_eq_false_iff_eq.mpr c98
                                                                    clear c98
                                                                    replace H := Option.bind_eq_some_iff.mp H
                                                                    obtain ⟨t149, A990, H⟩ := H
                                                                    replace H : (some t149) = some r := H
                                                                    have A99 := Aside0.mk A990
                                                                    clear A990
                                                                    obtain rfl := Option.some.inj H
                                                                    go_enter Tryd.func10, Tryd.ntmps10
                                                                    go_wp2_with (first | ((with_reducible refine gate_callee (f := 52) rfl ?_); refine goesL_ (some 139) rfl rfl Tryd.func52 (by kernel_rfl) rfl #[.int .i64 a1] rfl (by (try simp only [List.map_toArray, List.map_cons, List.map_nil]); first | done | rfl | (simp only [List.length_drop, List.length_take]; rfl) | (simp [Act.eval, *]; done) | (simp [Act.eval, *]; unfold wrap64; omega)) ?_; (with_reducible refine (xansi_SetErrorProgressBar.calls a1 t149 _ ?side1 A99.out).mono ?_); (case side1 => exact HLD.out.below (by repeat (first | (with_reducible first | exact HB.out | apply below_alloc | apply Go.Proofs.YtakjcihjkagnfaaDoor.Ext.below_bytes | apply pw_below_drewN | apply below_drew1) | exact HB.out))); rintro e w100 ⟨rfl, hb⟩; refine ⟨_, rfl, ?_⟩; have n0_ := Aside0.mk (below_step (by repeat (first | (with_reducible first | exact HB.out | apply below_alloc | apply Go.Proofs.YtakjcihjkagnfaaDoor.Ext.below_bytes | apply pw_below_drewN | apply below_drew1) | exact HB.out)) hb); clear HB; have HB := n0_; clear n0_; (try clear hb); (try clear hb2); (try clear hk); (try clear hi)))
                                                                    go_ret
                                                                    exact ⟨by first | rfl | (simp [errW_none, errW_some] <;> rfl) | (simp [*, errW_none, errW_some] <;> rfl), by repeat (first | (with_reducible first | exact HB.out | apply below_alloc | apply Go.Proofs.YtakjcihjkagnfaaDoor.Ext.below_bytes | apply pw_below_drewN | apply below_drew1) | exact HB.out)⟩
                                                                  · rw [if_neg c98] at H
                                                                    have c98b0 : (a0 == 32) = false := beq_eq_false_iff_ne.mpr c98
                                                                    have c98b1 : (a0 != 32) = true := bne_iff_ne.mpr c98
                                                                    by_cases c101 : a0 = 33
                                                                    · rw [if_pos c101] at H
                                                                      have c101b0 : (a0 == 33) = true := beq_iff_eq.mpr c101
                                                                      have c101b1 : (a0 != 33) = false := bne_eq_false_iff_eq.mpr c101
                                                                      clear c101
                                                                      replace H := Option.bind_eq_some_iff.mp H
                                                                      obtain ⟨t150, A1020, H⟩ := H
                                                                      replace H : (some t150) = some r := H
                                                                      have A102 := Aside0.mk A1020
                                                                      clear A1020
                                                                      obtain rfl := Option.some.inj H
                                                                      go_enter Tryd.func10, Tryd.ntmps10
                                                                      go_wp2_with (first | ((with_reducible refine gate_callee (f := 53) rfl ?_); refine goesL_ (some 143) rfl rfl Tryd.func53 (by kernel_rfl) rfl #[.int .i64 a1] rfl (by (try simp only [List.map_toArray, List.map_cons, List.map_nil]); first | done | rfl | (simp only [List.length_drop, List.length_take]; rfl) | (simp [Act.eval, *]; done) | (simp [Act.eval, *]; unfold wrap64; omega)) ?_; (with_reducible refine (xansi_SetWarningProgressBar.calls a1 t150 _ ?side1 A102.out).mono ?_); (case side1 => exact HLD.out.below (by repeat (first | (with_reducible first | exact HB.out | apply below_alloc | apply Go.Proofs.YtakjcihjkagnfaaDoor.Ext.below_bytes | apply pw_below_drewN | apply below_drew1) | exact HB.out))); rintro e w103 ⟨rfl, hb⟩; refine ⟨_, rfl, ?_⟩; have n0_ := Aside0.mk (below_step (by repeat (first | (with_reducible first | exact HB.out | apply below_alloc | apply Go.Proofs.YtakjcihjkagnfaaDoor.Ext.below_bytes | apply pw_below_drewN | apply below_drew1) | exact HB.out)) hb); clear HB; have HB := n0_; clear n0_; (try clear hb); (try clear hb2); (try clear hk); (try clear hi)))
                                                                      go_ret
                                                                      exact ⟨by first | rfl | (simp [errW_none, errW_some] <;> rfl) | (simp [*, errW_none, errW_some] <;> rfl), by repeat (first | (with_reducible first | exact HB.out | apply below_alloc | apply Go.Proofs.YtakjcihjkagnfaaDoor.Ext.below_bytes | apply pw_below_drewN | apply below_drew1) | exact HB.out)⟩
                                                                    · rw [if_neg c101] at H
                                                                      have c101b0 : (a0 == 33) = false := beq_eq_false_iff_ne.mpr c101
                                                                      have c101b1 : (a0 != 33) = true := bne_iff_ne.mpr c101
                                                                      obtain rfl := Option.some.inj H
                                                                      go_enter Tryd.func10, Tryd.ntmps10
                                                                      go_wp2
                                                                      go_ret
                                                                      exact ⟨by first | rfl | (simp [errW_none, errW_some] <;> rfl) | (simp [*, errW_none, errW_some] <;> rfl), by repeat (first | (with_reducible first | exact HB.out | apply below_alloc | apply Go.Proofs.YtakjcihjkagnfaaDoor.Ext.below_bytes | apply pw_below_drewN | apply below_drew1) | exact HB.out)⟩

/-! ### laws_makeAwake: function 5 -/
def laws_makeAwake.f  : Option (Bool) := (impl_MakeNumber.f 0 2).bind fun t151 => (some (t151.toList == ([27, 91, 50, 65] : List UInt8)))
set_option maxHeartbeats 8000000 in
set_option maxRecDepth 100000 in
theorem laws_makeAwake.calls  (r : Bool) (w : World) (hLD : Laid w) (h : laws_makeAwake.f  = some r) :
    Calls Tryd.prog 5 #[] w fun e w' => e = .returned (.bool r) ∧ Below w.heap.size w w' := by
  have HLD := Aside0.mk hLD
  clear hLD
  have HB := Aside0.mk (Below.refl w.heap.size w)
  have H : ((impl_MakeNumber.f 0 2).bind fun t151 => (some (t151.toList == ([27, 91, 50, 65] : List UInt8)))) = some r := h
  clear h
  replace H := Option.bind_eq_some_iff.mp H
  obtain ⟨t151, A10, H⟩ := H
  replace H : (some (t151.toList == ([27, 91, 50, 65] : List UInt8))) = some r := H
  have A1 := Aside0.mk A10
  clear A10
  obtain rfl := Option.some.inj H
  go_enter Tryd.func5, Tryd.ntmps5
  go_wp2_with (first | ((with_reducible refine gate_callee (f := 10) rfl ?_); refine goesL_ (some 1) rfl rfl Tryd.func10 (by kernel_rfl) rfl #[.int .i64 0, .int .i64 2] rfl (by (try simp only [List.map_toArray, List.map_cons, List.map_nil]); first | done | rfl | (simp only [List.length_drop, List.length_take]; rfl) | (simp [Act.eval, *]; done) | (simp [Act.eval, *]; unfold wrap64; omega)) ?_; (with_reducible refine (impl_MakeNumber.calls 0 2 t151 _ ?side1 A1.out).mono ?_); (case side1 => exact HLD.out.below (by repeat (first | (with_reducible first | exact HB.out | apply below_alloc | apply Go.Proofs.YtakjcihjkagnfaaDoor.Ext.below_bytes | apply pw_below_drewN | apply below_drew1) | exact HB.out))); rintro e w2 ⟨rfl, hb⟩; refine ⟨_, rfl, ?_⟩; have n0_ := Aside0.mk (below_step (by repeat (first | (with_reducible first | exact HB.out | apply below_alloc | apply Go.Proofs.YtakjcihjkagnfaaDoor.Ext.below_bytes | apply pw_below_drewN | apply below_drew1) | exact HB.out)) hb); clear HB; have HB := n0_; clear n0_; (try clear hb); (try clear hb2); (try clear hk); (try clear hi)))
  go_ret
  exact ⟨by first | rfl | (simp [errW_none, errW_some] <;> rfl) | (simp [*, errW_none, errW_some] <;> rfl), by repeat (first | (with_reducible first | exact HB.out | apply below_alloc | apply Go.Proofs.YtakjcihjkagnfaaDoor.Ext.below_bytes | apply pw_below_drewN | apply below_drew1) | exact HB.out)⟩

/-- THE ONE PURE STATEMENT of laws_makeAwake: yours. -/
def laws_makeAwake.Pure : Prop := laws_makeAwake.f  = some true
theorem laws_makeAwake.walk (P : laws_makeAwake.Pure)  (w : World) (hLD : Laid w)  :
    Calls Tryd.prog 5 #[] w fun e w' => e = .returned (.bool true) ∧ Below w.heap.size w w' := by
  have h := P  
  refine (laws_makeAwake.calls  true w hLD h).mono ?_
  rintro e w' ⟨rfl, hd⟩
  exact ⟨rfl, hd⟩

end Go.Proofs.YtakjcihjkagnfaaDoor.PM
