-- Written by wip/pp.py, a program of this session, out of the translation. Not trusted: Lean checks it.
import Derived.Test.YtjjkagjdbjpikaaDoorPIx0
namespace Go.Proofs.YtjjkagjdbjpikaaDoor.PI
open Go.RowKit Go.Proofs.YtjjkagjdbjpikaaDoor.Or Go.Proofs.YtjjkagjdbjpikaaDoorW.PrintWords Go.Proofs.YtjjkagjdbjpikaaDoorW.PrintLast Go.Proofs.YtjjkagjdbjpikaaDoorW.PrintMore
attribute [local go_sem] max2_int min2_int max_two min_two max_three min_three max_four min_four   -- for this text's walks alone
attribute [local go_sem] Go.Proofs.YtjjkagjdbjpikaaDoor.Ext.wrap64_mod256 Go.Proofs.YtjjkagjdbjpikaaDoor.Ext.wrap64_mod32 Go.Proofs.YtjjkagjdbjpikaaDoor.Ext.i64_mod256 Go.Proofs.YtjjkagjdbjpikaaDoor.Ext.i64_mod32 Go.Proofs.YtjjkagjdbjpikaaDoor.Ext.i64_u8 Go.Proofs.YtjjkagjdbjpikaaDoor.Ext.w64_u8 Go.Proofs.YtjjkagjdbjpikaaDoor.Ext.i64_u32 Go.Proofs.YtjjkagjdbjpikaaDoor.Ext.w64_u32 
set_option linter.unusedVariables false
set_option linter.unusedSimpArgs false

/-! ### xansi_CursorUp: function 67 -/
def xansi_CursorUp.f (a0 : Int) : Option (ByteArray) := if a0 > 1 then ((strconv_Itoa.f a0).bind fun t101 => (if 2 + t101.size ≤ 9223372036854775807 then (if 2 + t101.size + 1 ≤ 9223372036854775807 then (some (((⟨#[27, 91]⟩ : ByteArray) ++ t101) ++ (⟨#[65]⟩ : ByteArray))) else (none)) else (none))) else (if 2 + 0 ≤ 9223372036854775807 then (if 2 + 0 + 1 ≤ 9223372036854775807 then (some (((⟨#[27, 91]⟩ : ByteArray) ++ (⟨#[]⟩ : ByteArray)) ++ (⟨#[65]⟩ : ByteArray))) else (none)) else (none))
set_option maxHeartbeats 8000000 in
set_option maxRecDepth 100000 in
theorem xansi_CursorUp.calls (a0 : Int) (r : ByteArray) (w : World) (hLD : Laid w) (h : xansi_CursorUp.f a0 = some r) :
    Calls Tryd.prog 67 #[.int .i64 a0] w fun e w' => e = .returned (.string r) ∧ Below w.heap.size w w' := by
  have HLD := Aside0.mk hLD
  clear hLD
  have HB := Aside0.mk (Below.refl w.heap.size w)
  have H : (if a0 > 1 then ((strconv_Itoa.f a0).bind fun t101 => (if 2 + t101.size ≤ 9223372036854775807 then (if 2 + t101.size + 1 ≤ 9223372036854775807 then (some (((⟨#[27, 91]⟩ : ByteArray) ++ t101) ++ (⟨#[65]⟩ : ByteArray))) else (none)) else (none))) else (if 2 + 0 ≤ 9223372036854775807 then (if 2 + 0 + 1 ≤ 9223372036854775807 then (some (((⟨#[27, 91]⟩ : ByteArray) ++ (⟨#[]⟩ : ByteArray)) ++ (⟨#[65]⟩ : ByteArray))) else (none)) else (none))) = some r := h
  clear h
  by_cases c2 : a0 > 1
  · rw [if_pos c2] at H
    have c2b0 : decide (1 < a0) = true := decide_eq_true c2
    clear c2
    replace H := Option.bind_eq_some_iff.mp H
    obtain ⟨t101, A30, H⟩ := H
    replace H : (if 2 + t101.size ≤ 9223372036854775807 then (if 2 + t101.size + 1 ≤ 9223372036854775807 then (some (((⟨#[27, 91]⟩ : ByteArray) ++ t101) ++ (⟨#[65]⟩ : ByteArray))) else (none)) else (none)) = some r := H
    have A3 := Aside0.mk A30
    clear A30
    by_cases c4 : 2 + t101.size ≤ 9223372036854775807
    · rw [if_pos c4] at H
      have c4b0 := eq_true c4
      have c4b1 : decide (2 + t101.size ≤ 9223372036854775807) = true := decide_eq_true c4
      try have c4b2 : (9223372036854775807 < 2 + t101.size) = False := eq_false (Nat.not_lt.2 c4)
      by_cases c5 : 2 + t101.size + 1 ≤ 9223372036854775807
      · rw [if_pos c5] at H
        have c5b0 := eq_true c5
        have c5b1 : decide (2 + t101.size + 1 ≤ 9223372036854775807) = true := decide_eq_true c5
        try have c5b2 : (9223372036854775807 < 2 + t101.size + 1) = False := eq_false (Nat.not_lt.2 c5)
        obtain rfl := Option.some.inj H
        go_enter Tryd.func67, Tryd.ntmps67
        go_wp2_with (first | ((with_reducible refine gate_callee (f := 111) rfl ?_); refine goesL_ (some 7) rfl rfl Tryd.func111 (by kernel_rfl) rfl #[.int .i64 a0] rfl (by (try simp only [List.map_toArray, List.map_cons, List.map_nil]); first | done | rfl | (simp only [List.length_drop, List.length_take]; rfl) | (simp [Act.eval, *]; done) | (simp [Act.eval, *]; unfold wrap64; omega)) ?_; (with_reducible refine (strconv_Itoa.calls a0 t101 _ ?side1 A3.out).mono ?_); (case side1 => exact HLD.out.below (by repeat (first | (with_reducible first | exact HB.out | apply below_alloc | apply Go.Proofs.YtjjkagjdbjpikaaDoor.Ext.below_bytes | apply pw_below_drewN | apply below_drew1) | exact HB.out))); rintro e w6 ⟨rfl, hb⟩; refine ⟨_, rfl, ?_⟩; have n0_ := Aside0.mk (below_step (by repeat (first | (with_reducible first | exact HB.out | apply below_alloc | apply Go.Proofs.YtjjkagjdbjpikaaDoor.Ext.below_bytes | apply pw_below_drewN | apply below_drew1) | exact HB.out)) hb); clear HB; have HB := n0_; clear n0_; (try clear hb); (try clear hb2); (try clear hk); (try clear hi)))
        go_ret
        exact ⟨by first | rfl | (simp [errW_none, errW_some] <;> rfl) | (simp [*, errW_none, errW_some] <;> rfl), by repeat (first | (with_reducible first | exact HB.out | apply below_alloc | apply Go.Proofs.YtjjkagjdbjpikaaDoor.Ext.below_bytes | apply pw_below_drewN | apply below_drew1) | exact HB.out)⟩
      · rw [if_neg c5] at H
        exact absurd H (by simp)
    · rw [if_neg c4] at H
      exact absurd H (by simp)
  · rw [if_neg c2] at H
    have c2b0 : decide (1 < a0) = false := decide_eq_false c2
    clear c2
    by_cases c7 : 2 + 0 ≤ 9223372036854775807
    · rw [if_pos c7] at H
      have c7b0 := eq_true c7
      have c7b1 : decide (2 + 0 ≤ 9223372036854775807) = true := decide_eq_true c7
      try have c7b2 : (9223372036854775807 < 2 + 0) = False := eq_false (Nat.not_lt.2 c7)
      by_cases c8 : 2 + 0 + 1 ≤ 9223372036854775807
      · rw [if_pos c8] at H
        have c8b0 := eq_true c8
        have c8b1 : decide (2 + 0 + 1 ≤ 9223372036854775807) = true := decide_eq_true c8
        try have c8b2 : (9223372036854775807 < 2 + 0 + 1) = False := eq_false (Nat.not_lt.2 c8)
        obtain rfl := Option.some.inj H
        go_enter Tryd.func67, Tryd.ntmps67
        go_wp2
        go_ret
        exact ⟨by first | rfl | (simp [errW_none, errW_some] <;> rfl) | (simp [*, errW_none, errW_some] <;> rfl), by repeat (first | (with_reducible first | exact HB.out | apply below_alloc | apply Go.Proofs.YtjjkagjdbjpikaaDoor.Ext.below_bytes | apply pw_below_drewN | apply below_drew1) | exact HB.out)⟩
      · rw [if_neg c8] at H
        exact absurd H (by simp)
    · rw [if_neg c7] at H
      exact absurd H (by simp)

/-! ### xansi_CursorDown: function 68 -/
def xansi_CursorDown.f (a0 : Int) : Option (ByteArray) := none
set_option maxHeartbeats 8000000 in
set_option maxRecDepth 100000 in
theorem xansi_CursorDown.calls (a0 : Int) (r : ByteArray) (w : World) (hLD : Laid w) (h : xansi_CursorDown.f a0 = some r) :
    Calls Tryd.prog 68 #[.int .i64 a0] w fun e w' => e = .returned (.string r) ∧ Below w.heap.size w w' := by
  have HLD := Aside0.mk hLD
  clear hLD
  have HB := Aside0.mk (Below.refl w.heap.size w)
  have H : (none) = some r := h
  clear h
  exact absurd H (by simp)

/-! ### xansi_CursorForward: function 69 -/
def xansi_CursorForward.f (a0 : Int) : Option (ByteArray) := none
set_option maxHeartbeats 8000000 in
set_option maxRecDepth 100000 in
theorem xansi_CursorForward.calls (a0 : Int) (r : ByteArray) (w : World) (hLD : Laid w) (h : xansi_CursorForward.f a0 = some r) :
    Calls Tryd.prog 69 #[.int .i64 a0] w fun e w' => e = .returned (.string r) ∧ Below w.heap.size w w' := by
  have HLD := Aside0.mk hLD
  clear hLD
  have HB := Aside0.mk (Below.refl w.heap.size w)
  have H : (none) = some r := h
  clear h
  exact absurd H (by simp)

/-! ### xansi_CursorBackward: function 70 -/
def xansi_CursorBackward.f (a0 : Int) : Option (ByteArray) := none
set_option maxHeartbeats 8000000 in
set_option maxRecDepth 100000 in
theorem xansi_CursorBackward.calls (a0 : Int) (r : ByteArray) (w : World) (hLD : Laid w) (h : xansi_CursorBackward.f a0 = some r) :
    Calls Tryd.prog 70 #[.int .i64 a0] w fun e w' => e = .returned (.string r) ∧ Below w.heap.size w w' := by
  have HLD := Aside0.mk hLD
  clear hLD
  have HB := Aside0.mk (Below.refl w.heap.size w)
  have H : (none) = some r := h
  clear h
  exact absurd H (by simp)

/-! ### xansi_CursorNextLine: function 71 -/
def xansi_CursorNextLine.f (a0 : Int) : Option (ByteArray) := none
set_option maxHeartbeats 8000000 in
set_option maxRecDepth 100000 in
theorem xansi_CursorNextLine.calls (a0 : Int) (r : ByteArray) (w : World) (hLD : Laid w) (h : xansi_CursorNextLine.f a0 = some r) :
    Calls Tryd.prog 71 #[.int .i64 a0] w fun e w' => e = .returned (.string r) ∧ Below w.heap.size w w' := by
  have HLD := Aside0.mk hLD
  clear hLD
  have HB := Aside0.mk (Below.refl w.heap.size w)
  have H : (none) = some r := h
  clear h
  exact absurd H (by simp)

/-! ### xansi_CursorPreviousLine: function 72 -/
def xansi_CursorPreviousLine.f (a0 : Int) : Option (ByteArray) := none
set_option maxHeartbeats 8000000 in
set_option maxRecDepth 100000 in
theorem xansi_CursorPreviousLine.calls (a0 : Int) (r : ByteArray) (w : World) (hLD : Laid w) (h : xansi_CursorPreviousLine.f a0 = some r) :
    Calls Tryd.prog 72 #[.int .i64 a0] w fun e w' => e = .returned (.string r) ∧ Below w.heap.size w w' := by
  have HLD := Aside0.mk hLD
  clear hLD
  have HB := Aside0.mk (Below.refl w.heap.size w)
  have H : (none) = some r := h
  clear h
  exact absurd H (by simp)

/-! ### xansi_CursorHorizontalAbsolute: function 73 -/
def xansi_CursorHorizontalAbsolute.f (a0 : Int) : Option (ByteArray) := none
set_option maxHeartbeats 8000000 in
set_option maxRecDepth 100000 in
theorem xansi_CursorHorizontalAbsolute.calls (a0 : Int) (r : ByteArray) (w : World) (hLD : Laid w) (h : xansi_CursorHorizontalAbsolute.f a0 = some r) :
    Calls Tryd.prog 73 #[.int .i64 a0] w fun e w' => e = .returned (.string r) ∧ Below w.heap.size w w' := by
  have HLD := Aside0.mk hLD
  clear hLD
  have HB := Aside0.mk (Below.refl w.heap.size w)
  have H : (none) = some r := h
  clear h
  exact absurd H (by simp)

/-! ### xansi_CursorHorizontalForwardTab: function 74 -/
def xansi_CursorHorizontalForwardTab.f (a0 : Int) : Option (ByteArray) := none
set_option maxHeartbeats 8000000 in
set_option maxRecDepth 100000 in
theorem xansi_CursorHorizontalForwardTab.calls (a0 : Int) (r : ByteArray) (w : World) (hLD : Laid w) (h : xansi_CursorHorizontalForwardTab.f a0 = some r) :
    Calls Tryd.prog 74 #[.int .i64 a0] w fun e w' => e = .returned (.string r) ∧ Below w.heap.size w w' := by
  have HLD := Aside0.mk hLD
  clear hLD
  have HB := Aside0.mk (Below.refl w.heap.size w)
  have H : (none) = some r := h
  clear h
  exact absurd H (by simp)

/-! ### xansi_CursorBackwardTab: function 75 -/
def xansi_CursorBackwardTab.f (a0 : Int) : Option (ByteArray) := none
set_option maxHeartbeats 8000000 in
set_option maxRecDepth 100000 in
theorem xansi_CursorBackwardTab.calls (a0 : Int) (r : ByteArray) (w : World) (hLD : Laid w) (h : xansi_CursorBackwardTab.f a0 = some r) :
    Calls Tryd.prog 75 #[.int .i64 a0] w fun e w' => e = .returned (.string r) ∧ Below w.heap.size w w' := by
  have HLD := Aside0.mk hLD
  clear hLD
  have HB := Aside0.mk (Below.refl w.heap.size w)
  have H : (none) = some r := h
  clear h
  exact absurd H (by simp)

/-! ### xansi_EraseCharacter: function 76 -/
def xansi_EraseCharacter.f (a0 : Int) : Option (ByteArray) := none
set_option maxHeartbeats 8000000 in
set_option maxRecDepth 100000 in
theorem xansi_EraseCharacter.calls (a0 : Int) (r : ByteArray) (w : World) (hLD : Laid w) (h : xansi_EraseCharacter.f a0 = some r) :
    Calls Tryd.prog 76 #[.int .i64 a0] w fun e w' => e = .returned (.string r) ∧ Below w.heap.size w w' := by
  have HLD := Aside0.mk hLD
  clear hLD
  have HB := Aside0.mk (Below.refl w.heap.size w)
  have H : (none) = some r := h
  clear h
  exact absurd H (by simp)

/-! ### xansi_EraseDisplay: function 77 -/
def xansi_EraseDisplay.f (a0 : Int) : Option (ByteArray) := none
set_option maxHeartbeats 8000000 in
set_option maxRecDepth 100000 in
theorem xansi_EraseDisplay.calls (a0 : Int) (r : ByteArray) (w : World) (hLD : Laid w) (h : xansi_EraseDisplay.f a0 = some r) :
    Calls Tryd.prog 77 #[.int .i64 a0] w fun e w' => e = .returned (.string r) ∧ Below w.heap.size w w' := by
  have HLD := Aside0.mk hLD
  clear hLD
  have HB := Aside0.mk (Below.refl w.heap.size w)
  have H : (none) = some r := h
  clear h
  exact absurd H (by simp)

/-! ### xansi_EraseLine: function 78 -/
def xansi_EraseLine.f (a0 : Int) : Option (ByteArray) := none
set_option maxHeartbeats 8000000 in
set_option maxRecDepth 100000 in
theorem xansi_EraseLine.calls (a0 : Int) (r : ByteArray) (w : World) (hLD : Laid w) (h : xansi_EraseLine.f a0 = some r) :
    Calls Tryd.prog 78 #[.int .i64 a0] w fun e w' => e = .returned (.string r) ∧ Below w.heap.size w w' := by
  have HLD := Aside0.mk hLD
  clear hLD
  have HB := Aside0.mk (Below.refl w.heap.size w)
  have H : (none) = some r := h
  clear h
  exact absurd H (by simp)

/-! ### xansi_ScrollUp: function 79 -/
def xansi_ScrollUp.f (a0 : Int) : Option (ByteArray) := none
set_option maxHeartbeats 8000000 in
set_option maxRecDepth 100000 in
theorem xansi_ScrollUp.calls (a0 : Int) (r : ByteArray) (w : World) (hLD : Laid w) (h : xansi_ScrollUp.f a0 = some r) :
    Calls Tryd.prog 79 #[.int .i64 a0] w fun e w' => e = .returned (.string r) ∧ Below w.heap.size w w' := by
  have HLD := Aside0.mk hLD
  clear hLD
  have HB := Aside0.mk (Below.refl w.heap.size w)
  have H : (none) = some r := h
  clear h
  exact absurd H (by simp)

/-! ### xansi_ScrollDown: function 80 -/
def xansi_ScrollDown.f (a0 : Int) : Option (ByteArray) := none
set_option maxHeartbeats 8000000 in
set_option maxRecDepth 100000 in
theorem xansi_ScrollDown.calls (a0 : Int) (r : ByteArray) (w : World) (hLD : Laid w) (h : xansi_ScrollDown.f a0 = some r) :
    Calls Tryd.prog 80 #[.int .i64 a0] w fun e w' => e = .returned (.string r) ∧ Below w.heap.size w w' := by
  have HLD := Aside0.mk hLD
  clear hLD
  have HB := Aside0.mk (Below.refl w.heap.size w)
  have H : (none) = some r := h
  clear h
  exact absurd H (by simp)

/-! ### xansi_InsertLine: function 81 -/
def xansi_InsertLine.f (a0 : Int) : Option (ByteArray) := none
set_option maxHeartbeats 8000000 in
set_option maxRecDepth 100000 in
theorem xansi_InsertLine.calls (a0 : Int) (r : ByteArray) (w : World) (hLD : Laid w) (h : xansi_InsertLine.f a0 = some r) :
    Calls Tryd.prog 81 #[.int .i64 a0] w fun e w' => e = .returned (.string r) ∧ Below w.heap.size w w' := by
  have HLD := Aside0.mk hLD
  clear hLD
  have HB := Aside0.mk (Below.refl w.heap.size w)
  have H : (none) = some r := h
  clear h
  exact absurd H (by simp)

/-! ### xansi_DeleteLine: function 82 -/
def xansi_DeleteLine.f (a0 : Int) : Option (ByteArray) := none
set_option maxHeartbeats 8000000 in
set_option maxRecDepth 100000 in
theorem xansi_DeleteLine.calls (a0 : Int) (r : ByteArray) (w : World) (hLD : Laid w) (h : xansi_DeleteLine.f a0 = some r) :
    Calls Tryd.prog 82 #[.int .i64 a0] w fun e w' => e = .returned (.string r) ∧ Below w.heap.size w w' := by
  have HLD := Aside0.mk hLD
  clear hLD
  have HB := Aside0.mk (Below.refl w.heap.size w)
  have H : (none) = some r := h
  clear h
  exact absurd H (by simp)

/-! ### xansi_InsertCharacter: function 83 -/
def xansi_InsertCharacter.f (a0 : Int) : Option (ByteArray) := none
set_option maxHeartbeats 8000000 in
set_option maxRecDepth 100000 in
theorem xansi_InsertCharacter.calls (a0 : Int) (r : ByteArray) (w : World) (hLD : Laid w) (h : xansi_InsertCharacter.f a0 = some r) :
    Calls Tryd.prog 83 #[.int .i64 a0] w fun e w' => e = .returned (.string r) ∧ Below w.heap.size w w' := by
  have HLD := Aside0.mk hLD
  clear hLD
  have HB := Aside0.mk (Below.refl w.heap.size w)
  have H : (none) = some r := h
  clear h
  exact absurd H (by simp)

/-! ### xansi_DeleteCharacter: function 84 -/
def xansi_DeleteCharacter.f (a0 : Int) : Option (ByteArray) := none
set_option maxHeartbeats 8000000 in
set_option maxRecDepth 100000 in
theorem xansi_DeleteCharacter.calls (a0 : Int) (r : ByteArray) (w : World) (hLD : Laid w) (h : xansi_DeleteCharacter.f a0 = some r) :
    Calls Tryd.prog 84 #[.int .i64 a0] w fun e w' => e = .returned (.string r) ∧ Below w.heap.size w w' := by
  have HLD := Aside0.mk hLD
  clear hLD
  have HB := Aside0.mk (Below.refl w.heap.size w)
  have H : (none) = some r := h
  clear h
  exact absurd H (by simp)

/-! ### xansi_VerticalPositionAbsolute: function 85 -/
def xansi_VerticalPositionAbsolute.f (a0 : Int) : Option (ByteArray) := none
set_option maxHeartbeats 8000000 in
set_option maxRecDepth 100000 in
theorem xansi_VerticalPositionAbsolute.calls (a0 : Int) (r : ByteArray) (w : World) (hLD : Laid w) (h : xansi_VerticalPositionAbsolute.f a0 = some r) :
    Calls Tryd.prog 85 #[.int .i64 a0] w fun e w' => e = .returned (.string r) ∧ Below w.heap.size w w' := by
  have HLD := Aside0.mk hLD
  clear hLD
  have HB := Aside0.mk (Below.refl w.heap.size w)
  have H : (none) = some r := h
  clear h
  exact absurd H (by simp)

/-! ### xansi_VerticalPositionRelative: function 86 -/
def xansi_VerticalPositionRelative.f (a0 : Int) : Option (ByteArray) := none
set_option maxHeartbeats 8000000 in
set_option maxRecDepth 100000 in
theorem xansi_VerticalPositionRelative.calls (a0 : Int) (r : ByteArray) (w : World) (hLD : Laid w) (h : xansi_VerticalPositionRelative.f a0 = some r) :
    Calls Tryd.prog 86 #[.int .i64 a0] w fun e w' => e = .returned (.string r) ∧ Below w.heap.size w w' := by
  have HLD := Aside0.mk hLD
  clear hLD
  have HB := Aside0.mk (Below.refl w.heap.size w)
  have H : (none) = some r := h
  clear h
  exact absurd H (by simp)

/-! ### xansi_HorizontalPositionAbsolute: function 87 -/
def xansi_HorizontalPositionAbsolute.f (a0 : Int) : Option (ByteArray) := none
set_option maxHeartbeats 8000000 in
set_option maxRecDepth 100000 in
theorem xansi_HorizontalPositionAbsolute.calls (a0 : Int) (r : ByteArray) (w : World) (hLD : Laid w) (h : xansi_HorizontalPositionAbsolute.f a0 = some r) :
    Calls Tryd.prog 87 #[.int .i64 a0] w fun e w' => e = .returned (.string r) ∧ Below w.heap.size w w' := by
  have HLD := Aside0.mk hLD
  clear hLD
  have HB := Aside0.mk (Below.refl w.heap.size w)
  have H : (none) = some r := h
  clear h
  exact absurd H (by simp)

/-! ### xansi_HorizontalPositionRelative: function 88 -/
def xansi_HorizontalPositionRelative.f (a0 : Int) : Option (ByteArray) := none
set_option maxHeartbeats 8000000 in
set_option maxRecDepth 100000 in
theorem xansi_HorizontalPositionRelative.calls (a0 : Int) (r : ByteArray) (w : World) (hLD : Laid w) (h : xansi_HorizontalPositionRelative.f a0 = some r) :
    Calls Tryd.prog 88 #[.int .i64 a0] w fun e w' => e = .returned (.string r) ∧ Below w.heap.size w w' := by
  have HLD := Aside0.mk hLD
  clear hLD
  have HB := Aside0.mk (Below.refl w.heap.size w)
  have H : (none) = some r := h
  clear h
  exact absurd H (by simp)

/-! ### xansi_RepeatPreviousCharacter: function 89 -/
def xansi_RepeatPreviousCharacter.f (a0 : Int) : Option (ByteArray) := none
set_option maxHeartbeats 8000000 in
set_option maxRecDepth 100000 in
theorem xansi_RepeatPreviousCharacter.calls (a0 : Int) (r : ByteArray) (w : World) (hLD : Laid w) (h : xansi_RepeatPreviousCharacter.f a0 = some r) :
    Calls Tryd.prog 89 #[.int .i64 a0] w fun e w' => e = .returned (.string r) ∧ Below w.heap.size w w' := by
  have HLD := Aside0.mk hLD
  clear hLD
  have HB := Aside0.mk (Below.refl w.heap.size w)
  have H : (none) = some r := h
  clear h
  exact absurd H (by simp)

/-! ### xansi_SetCursorStyle: function 90 -/
def xansi_SetCursorStyle.f (a0 : Int) : Option (ByteArray) := none
set_option maxHeartbeats 8000000 in
set_option maxRecDepth 100000 in
theorem xansi_SetCursorStyle.calls (a0 : Int) (r : ByteArray) (w : World) (hLD : Laid w) (h : xansi_SetCursorStyle.f a0 = some r) :
    Calls Tryd.prog 90 #[.int .i64 a0] w fun e w' => e = .returned (.string r) ∧ Below w.heap.size w w' := by
  have HLD := Aside0.mk hLD
  clear hLD
  have HB := Aside0.mk (Below.refl w.heap.size w)
  have H : (none) = some r := h
  clear h
  exact absurd H (by simp)

/-! ### xansi_TabClear: function 91 -/
def xansi_TabClear.f (a0 : Int) : Option (ByteArray) := none
set_option maxHeartbeats 8000000 in
set_option maxRecDepth 100000 in
theorem xansi_TabClear.calls (a0 : Int) (r : ByteArray) (w : World) (hLD : Laid w) (h : xansi_TabClear.f a0 = some r) :
    Calls Tryd.prog 91 #[.int .i64 a0] w fun e w' => e = .returned (.string r) ∧ Below w.heap.size w w' := by
  have HLD := Aside0.mk hLD
  clear hLD
  have HB := Aside0.mk (Below.refl w.heap.size w)
  have H : (none) = some r := h
  clear h
  exact absurd H (by simp)

/-! ### xansi_RequestPresentationStateReport: function 92 -/
def xansi_RequestPresentationStateReport.f (a0 : Int) : Option (ByteArray) := none
set_option maxHeartbeats 8000000 in
set_option maxRecDepth 100000 in
theorem xansi_RequestPresentationStateReport.calls (a0 : Int) (r : ByteArray) (w : World) (hLD : Laid w) (h : xansi_RequestPresentationStateReport.f a0 = some r) :
    Calls Tryd.prog 92 #[.int .i64 a0] w fun e w' => e = .returned (.string r) ∧ Below w.heap.size w w' := by
  have HLD := Aside0.mk hLD
  clear hLD
  have HB := Aside0.mk (Below.refl w.heap.size w)
  have H : (none) = some r := h
  clear h
  exact absurd H (by simp)

/-! ### xansi_PushKittyKeyboard: function 93 -/
def xansi_PushKittyKeyboard.f (a0 : Int) : Option (ByteArray) := none
set_option maxHeartbeats 8000000 in
set_option maxRecDepth 100000 in
theorem xansi_PushKittyKeyboard.calls (a0 : Int) (r : ByteArray) (w : World) (hLD : Laid w) (h : xansi_PushKittyKeyboard.f a0 = some r) :
    Calls Tryd.prog 93 #[.int .i64 a0] w fun e w' => e = .returned (.string r) ∧ Below w.heap.size w w' := by
  have HLD := Aside0.mk hLD
  clear hLD
  have HB := Aside0.mk (Below.refl w.heap.size w)
  have H : (none) = some r := h
  clear h
  exact absurd H (by simp)

/-! ### xansi_PopKittyKeyboard: function 94 -/
def xansi_PopKittyKeyboard.f (a0 : Int) : Option (ByteArray) := none
set_option maxHeartbeats 8000000 in
set_option maxRecDepth 100000 in
theorem xansi_PopKittyKeyboard.calls (a0 : Int) (r : ByteArray) (w : World) (hLD : Laid w) (h : xansi_PopKittyKeyboard.f a0 = some r) :
    Calls Tryd.prog 94 #[.int .i64 a0] w fun e w' => e = .returned (.string r) ∧ Below w.heap.size w w' := by
  have HLD := Aside0.mk hLD
  clear hLD
  have HB := Aside0.mk (Below.refl w.heap.size w)
  have H : (none) = some r := h
  clear h
  exact absurd H (by simp)

/-! ### xansi_QueryKeyModifierOptions: function 95 -/
def xansi_QueryKeyModifierOptions.f (a0 : Int) : Option (ByteArray) := none
set_option maxHeartbeats 8000000 in
set_option maxRecDepth 100000 in
theorem xansi_QueryKeyModifierOptions.calls (a0 : Int) (r : ByteArray) (w : World) (hLD : Laid w) (h : xansi_QueryKeyModifierOptions.f a0 = some r) :
    Calls Tryd.prog 95 #[.int .i64 a0] w fun e w' => e = .returned (.string r) ∧ Below w.heap.size w w' := by
  have HLD := Aside0.mk hLD
  clear hLD
  have HB := Aside0.mk (Below.refl w.heap.size w)
  have H : (none) = some r := h
  clear h
  exact absurd H (by simp)

/-! ### xansi_ResetKeyModifierOptions: function 96 -/
def xansi_ResetKeyModifierOptions.f (a0 : Int) : Option (ByteArray) := none
set_option maxHeartbeats 8000000 in
set_option maxRecDepth 100000 in
theorem xansi_ResetKeyModifierOptions.calls (a0 : Int) (r : ByteArray) (w : World) (h : xansi_ResetKeyModifierOptions.f a0 = some r) :
    Calls Tryd.prog 96 #[.int .i64 a0] w fun e w' => e = .returned (.string r) ∧ Drawn0 w w' := by
  have H : (none) = some r := h
  clear h
  exact absurd H (by simp)

/-! ### xansi_ModifyOtherKeys: function 97 -/
def xansi_ModifyOtherKeys.f (a0 : Int) : Option (ByteArray) := none
set_option maxHeartbeats 8000000 in
set_option maxRecDepth 100000 in
theorem xansi_ModifyOtherKeys.calls (a0 : Int) (r : ByteArray) (w : World) (hLD : Laid w) (h : xansi_ModifyOtherKeys.f a0 = some r) :
    Calls Tryd.prog 97 #[.int .i64 a0] w fun e w' => e = .returned (.string r) ∧ Below w.heap.size w w' := by
  have HLD := Aside0.mk hLD
  clear hLD
  have HB := Aside0.mk (Below.refl w.heap.size w)
  have H : (none) = some r := h
  clear h
  exact absurd H (by simp)

/-! ### xansi_SetProgressBar: function 98 -/
def xansi_SetProgressBar.f (a0 : Int) : Option (ByteArray) := none
set_option maxHeartbeats 8000000 in
set_option maxRecDepth 100000 in
theorem xansi_SetProgressBar.calls (a0 : Int) (r : ByteArray) (w : World) (hLD : Laid w) (h : xansi_SetProgressBar.f a0 = some r) :
    Calls Tryd.prog 98 #[.int .i64 a0] w fun e w' => e = .returned (.string r) ∧ Below w.heap.size w w' := by
  have HLD := Aside0.mk hLD
  clear hLD
  have HB := Aside0.mk (Below.refl w.heap.size w)
  have H : (none) = some r := h
  clear h
  exact absurd H (by simp)

/-! ### xansi_SetErrorProgressBar: function 99 -/
def xansi_SetErrorProgressBar.f (a0 : Int) : Option (ByteArray) := none
set_option maxHeartbeats 8000000 in
set_option maxRecDepth 100000 in
theorem xansi_SetErrorProgressBar.calls (a0 : Int) (r : ByteArray) (w : World) (hLD : Laid w) (h : xansi_SetErrorProgressBar.f a0 = some r) :
    Calls Tryd.prog 99 #[.int .i64 a0] w fun e w' => e = .returned (.string r) ∧ Below w.heap.size w w' := by
  have HLD := Aside0.mk hLD
  clear hLD
  have HB := Aside0.mk (Below.refl w.heap.size w)
  have H : (none) = some r := h
  clear h
  exact absurd H (by simp)

/-! ### xansi_SetWarningProgressBar: function 100 -/
def xansi_SetWarningProgressBar.f (a0 : Int) : Option (ByteArray) := none
set_option maxHeartbeats 8000000 in
set_option maxRecDepth 100000 in
theorem xansi_SetWarningProgressBar.calls (a0 : Int) (r : ByteArray) (w : World) (hLD : Laid w) (h : xansi_SetWarningProgressBar.f a0 = some r) :
    Calls Tryd.prog 100 #[.int .i64 a0] w fun e w' => e = .returned (.string r) ∧ Below w.heap.size w w' := by
  have HLD := Aside0.mk hLD
  clear hLD
  have HB := Aside0.mk (Below.refl w.heap.size w)
  have H : (none) = some r := h
  clear h
  exact absurd H (by simp)

end Go.Proofs.YtjjkagjdbjpikaaDoor.PI
