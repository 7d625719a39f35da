-- Written by wip/pp.py, a program of this session, out of the translation. Not trusted: Lean checks it.
import Derived.Test.YtjjkagjdbjpikaaDoorPXx0
import Derived.Test.YtjjkagjdbjpikaaDoorPXx6
namespace Go.Proofs.YtjjkagjdbjpikaaDoor.PX
open Go.RowKit Go.Proofs.YtjjkagjdbjpikaaDoor.Or Go.Proofs.YtjjkagjdbjpikaaDoorW.PrintWords Go.Proofs.YtjjkagjdbjpikaaDoorW.PrintLast Go.Proofs.YtjjkagjdbjpikaaDoorW.PrintMore
attribute [local go_sem] max2_int min2_int max_two min_two max_three min_three max_four min_four   -- for this text's walks alone
attribute [local go_sem] Go.Proofs.YtjjkagjdbjpikaaDoor.Ext.wrap64_mod256 Go.Proofs.YtjjkagjdbjpikaaDoor.Ext.wrap64_mod32 Go.Proofs.YtjjkagjdbjpikaaDoor.Ext.i64_mod256 Go.Proofs.YtjjkagjdbjpikaaDoor.Ext.i64_mod32 Go.Proofs.YtjjkagjdbjpikaaDoor.Ext.i64_u8 Go.Proofs.YtjjkagjdbjpikaaDoor.Ext.w64_u8 Go.Proofs.YtjjkagjdbjpikaaDoor.Ext.i64_u32 Go.Proofs.YtjjkagjdbjpikaaDoor.Ext.w64_u32 
set_option linter.unusedVariables false
set_option linter.unusedSimpArgs false

/-! ### spec_MadeTexts: function 16 -/
mutual
def spec_MadeTexts.l0 : Nat → List ByteArray → List ByteArray → Int → Int → Option (ByteArray)
  | 0, _, _, _, _ => none
  | k + 1, x7, x51, x52, x53 => if x53 < x52 then (if 0 ≤ x53 then (if x53 < (x51.length : Int) then (spec_MadeTexts.l1 k x7 (rdOf ByteArray.empty x51 x53) (⟨#[]⟩ : ByteArray) 0 x51 x52 x53) else (none)) else (none)) else ((spec_madeJoined.f k x7 (⟨#[59]⟩ : ByteArray)).bind fun t251 => (if 4 + t251.size ≤ 9223372036854775807 then (if 4 + t251.size + 2 ≤ 9223372036854775807 then (some (((⟨#[27, 80, 43, 113]⟩ : ByteArray) ++ t251) ++ (⟨#[27, 92]⟩ : ByteArray))) else (none)) else (none)))
def spec_MadeTexts.l1 : Nat → List ByteArray → ByteArray → ByteArray → Int → List ByteArray → Int → Int → Option (ByteArray)
  | 0, _, _, _, _, _, _, _ => none
  | k + 1, x7, x9, x10, x11, x51, x52, x53 => if x11 < (x9.size : Int) then (if 0 ≤ x11 then (if 0 ≤ ((bt x9 x11) / 16) then (if ((bt x9 x11) / 16) < 16 then (if 0 ≤ (Go.bits .and .u8 (bt x9 x11) 15) then (if (Go.bits .and .u8 (bt x9 x11) 15) < 16 then ((some (([bt (⟨#[48, 49, 50, 51, 52, 53, 54, 55, 56, 57, 65, 66, 67, 68, 69, 70]⟩ : ByteArray) ((bt x9 x11) / 16), bt (⟨#[48, 49, 50, 51, 52, 53, 54, 55, 56, 57, 65, 66, 67, 68, 69, 70]⟩ : ByteArray) (Go.bits .and .u8 (bt x9 x11) 15)] : List Int) : List Int)).bind fun y253 => (if x10.size + (strOfNums y253).size ≤ 9223372036854775807 then (spec_MadeTexts.l1 k x7 x9 (x10 ++ (strOfNums y253)) (wrap64 (x11 + 1)) x51 x52 x53) else (none))) else (none)) else (none)) else (none)) else (none)) else (none)) else (if x7.length < 8796093022208 then (spec_MadeTexts.l0 k (x7 ++ [x10]) x51 x52 (wrap64 (x53 + 1))) else (none))
end
def spec_MadeTexts.f (k : Nat) (a0 : Int) (a1 : ByteArray) (l2 : List ByteArray) : Option (ByteArray) := if a0 = 0 then ((spec_madeJoined.f k l2 (⟨#[58]⟩ : ByteArray)).bind fun t247 => (if 4 + t247.size ≤ 9223372036854775807 then (if 4 + t247.size + 1 ≤ 9223372036854775807 then (if 4 + t247.size + 1 + a1.size ≤ 9223372036854775807 then (if 4 + t247.size + 1 + a1.size + 1 ≤ 9223372036854775807 then (some (((((⟨#[27, 93, 56, 59]⟩ : ByteArray) ++ t247) ++ (⟨#[59]⟩ : ByteArray)) ++ a1) ++ (⟨#[7]⟩ : ByteArray))) else (none)) else (none)) else (none)) else (none))) else (if a0 = 1 then (if 6 + a1.size ≤ 9223372036854775807 then (if 6 + a1.size + 1 ≤ 9223372036854775807 then ((spec_madeJoined.f k l2 (⟨#[59]⟩ : ByteArray)).bind fun t248 => (if 6 + a1.size + 1 + t248.size ≤ 9223372036854775807 then (if 6 + a1.size + 1 + t248.size + 1 ≤ 9223372036854775807 then (some (((((⟨#[27, 93, 55, 55, 55, 59]⟩ : ByteArray) ++ a1) ++ (⟨#[59]⟩ : ByteArray)) ++ t248) ++ (⟨#[7]⟩ : ByteArray))) else (none)) else (none))) else (none)) else (none)) else (if a0 = 3 then ((spec_madeJoined.f k l2 (⟨#[58]⟩ : ByteArray)).bind fun t249 => (if 5 + t249.size ≤ 9223372036854775807 then (if 5 + t249.size + 1 ≤ 9223372036854775807 then (if 5 + t249.size + 1 + a1.size ≤ 9223372036854775807 then (if 5 + t249.size + 1 + a1.size + 1 ≤ 9223372036854775807 then (some (((((⟨#[27, 93, 57, 57, 59]⟩ : ByteArray) ++ t249) ++ (⟨#[59]⟩ : ByteArray)) ++ a1) ++ (⟨#[7]⟩ : ByteArray))) else (none)) else (none)) else (none)) else (none))) else (if a0 = 4 then ((spec_madeJoined.f k l2 (⟨#[58]⟩ : ByteArray)).bind fun t250 => (if 4 + t250.size ≤ 9223372036854775807 then (if 4 + t250.size + 2 ≤ 9223372036854775807 then (some (((⟨#[27, 93, 56, 59]⟩ : ByteArray) ++ t250) ++ (⟨#[59, 7]⟩ : ByteArray))) else (none)) else (none))) else (if a0 = 5 then (if (l2.length : Int) = 0 then (some (⟨#[]⟩ : ByteArray)) else (spec_MadeTexts.l0 k ([] : List ByteArray) l2 (l2.length : Int) 0)) else (if a0 = 6 then ((spec_madeJoined.f k l2 (⟨#[59]⟩ : ByteArray)).bind fun t259 => (if 6 + t259.size ≤ 9223372036854775807 then (if 6 + t259.size + 1 ≤ 9223372036854775807 then (some (((⟨#[27, 93, 49, 51, 51, 59]⟩ : ByteArray) ++ t259) ++ (⟨#[7]⟩ : ByteArray))) else (none)) else (none))) else ((some (([(⟨#[65]⟩ : ByteArray), (⟨#[66]⟩ : ByteArray), (⟨#[67]⟩ : ByteArray), (⟨#[68]⟩ : ByteArray)] : List ByteArray) : List ByteArray)).bind fun y260 => (if 0 ≤ (wrap64 (a0 - 7)) then (if (wrap64 (a0 - 7)) < (y260.length : Int) then ((some (([rdOf ByteArray.empty y260 (wrap64 (a0 - 7))] : List ByteArray) : List ByteArray)).bind fun y264 => (if y264.length + l2.length < 8796093022208 then ((spec_madeJoined.f k (y264 ++ l2) (⟨#[59]⟩ : ByteArray)).bind fun t270 => (if 6 + t270.size ≤ 9223372036854775807 then (if 6 + t270.size + 1 ≤ 9223372036854775807 then (some (((⟨#[27, 93, 49, 51, 51, 59]⟩ : ByteArray) ++ t270) ++ (⟨#[7]⟩ : ByteArray))) else (none)) else (none))) else (none))) else (none)) else (none))))))))
theorem spec_MadeTexts.mono_l : ∀ k, (∀ y0 y1 y2 y3, LeO (spec_MadeTexts.l0 k y0 y1 y2 y3) (spec_MadeTexts.l0 (k + 1) y0 y1 y2 y3)) ∧ (∀ y0 y1 y2 y3 y4 y5 y6, LeO (spec_MadeTexts.l1 k y0 y1 y2 y3 y4 y5 y6) (spec_MadeTexts.l1 (k + 1) y0 y1 y2 y3 y4 y5 y6))
  | 0 => ⟨fun _ _ _ _ r h => by simp [spec_MadeTexts.l0] at h, fun _ _ _ _ _ _ _ r h => by simp [spec_MadeTexts.l1] at h⟩
  | k + 1 => by
    obtain ⟨ih0, ih1⟩ := spec_MadeTexts.mono_l k
    refine ⟨?_, ?_⟩
    · intro y0 y1 y2 y3
      unfold spec_MadeTexts.l0
      repeat' first
      | (with_reducible exact ih0 _ _ _ _)
      | (with_reducible exact ih1 _ _ _ _ _ _ _)
      | (with_reducible exact spec_madeJoined.mono _ _ _)
      | (with_reducible exact LeO.refl _)
      | (with_reducible exact LeO.none _)
      | (with_reducible refine LeO.ite ?_ ?_)
      | (with_reducible refine LeO.bind ?_ (fun _ => ?_))
      | exact ih0 _ _ _ _
      | exact ih1 _ _ _ _ _ _ _
      | exact spec_madeJoined.mono _ _ _
      | exact LeO.none _
      | refine LeO.ite ?_ ?_
      | refine LeO.bind ?_ (fun _ => ?_)
    · intro y0 y1 y2 y3 y4 y5 y6
      unfold spec_MadeTexts.l1
      repeat' first
      | (with_reducible exact ih0 _ _ _ _)
      | (with_reducible exact ih1 _ _ _ _ _ _ _)
      | (with_reducible exact spec_madeJoined.mono _ _ _)
      | (with_reducible exact LeO.refl _)
      | (with_reducible exact LeO.none _)
      | (with_reducible refine LeO.ite ?_ ?_)
      | (with_reducible refine LeO.bind ?_ (fun _ => ?_))
      | exact ih0 _ _ _ _
      | exact ih1 _ _ _ _ _ _ _
      | exact spec_madeJoined.mono _ _ _
      | exact LeO.none _
      | refine LeO.ite ?_ ?_
      | refine LeO.bind ?_ (fun _ => ?_)
theorem spec_MadeTexts.mono : ∀ a0 a1 a2 k, LeO (spec_MadeTexts.f k a0 a1 a2) (spec_MadeTexts.f (k + 1) a0 a1 a2) := by
  intro a0 a1 a2 k
  obtain ⟨ih0, ih1⟩ := spec_MadeTexts.mono_l k
  unfold spec_MadeTexts.f
  repeat' first
      | (with_reducible exact ih0 _ _ _ _)
      | (with_reducible exact ih1 _ _ _ _ _ _ _)
      | (with_reducible exact spec_madeJoined.mono _ _ _)
      | (with_reducible exact LeO.refl _)
      | (with_reducible exact LeO.none _)
      | (with_reducible refine LeO.ite ?_ ?_)
      | (with_reducible refine LeO.bind ?_ (fun _ => ?_))
      | exact ih0 _ _ _ _
      | exact ih1 _ _ _ _ _ _ _
      | exact spec_madeJoined.mono _ _ _
      | exact LeO.none _
      | refine LeO.ite ?_ ?_
      | refine LeO.bind ?_ (fun _ => ?_)
def spec_MadeTexts.T21 : Bool × List (List Nat × List Nat) := (true, [([], []), ([], []), ([], []), ([1, 2], [1, 2]), ([3], [3]), ([4], [4]), ([], []), ([], []), ([6, 7], [6, 7]), ([8], [8]), ([9], [9]), ([5, 10], [5, 10]), ([11], [11]), ([0, 12], [0, 12]), ([13, 0, 1, 2, 3, 4, 5, 6, 7, 8, 9, 10, 11, 12, 13], [0, 13])])
def spec_MadeTexts.B21 : List Nat := [0, 0, 0, 6, 14, 30, 0, 0, 192, 448, 960, 2046, 4094, 8191, 16383]
theorem spec_MadeTexts.tab21 : rtab .any (opsOf Tryd.f16 21) = spec_MadeTexts.T21 := by kernel_rfl
theorem spec_MadeTexts.bits21 : waitsOk spec_MadeTexts.T21.2 spec_MadeTexts.B21 = true := by kernel_rfl
set_option maxHeartbeats 8000000 in
set_option maxRecDepth 100000 in
theorem spec_MadeTexts.calls (k : Nat) (a0 : Int) (a1 : ByteArray) (A2 : Option Addr) (c2 : Nat) (l2 : List ByteArray) (r : ByteArray) (w : World) (hr2 : Kd.C Kd.string w A2 l2.length l2) (hc2 : l2.length ≤ c2) (h : spec_MadeTexts.f k a0 a1 l2 = some r) :
    Calls Tryd.prog 16 #[.int .i64 a0, .string a1, .slice A2 l2.length c2] w fun e w' => e = .returned (.string r) ∧ Below w.heap.size w w' := by
  have HR2 := Aside0.mk hr2
  have HC2 := Aside0.mk hc2
  clear hr2 hc2
  have HB := Aside0.mk (Below.refl w.heap.size w)
  have H : (if a0 = 0 then ((spec_madeJoined.f k l2 (⟨#[58]⟩ : ByteArray)).bind fun t247 => (if 4 + t247.size ≤ 9223372036854775807 then (if 4 + t247.size + 1 ≤ 9223372036854775807 then (if 4 + t247.size + 1 + a1.size ≤ 9223372036854775807 then (if 4 + t247.size + 1 + a1.size + 1 ≤ 9223372036854775807 then (some (((((⟨#[27, 93, 56, 59]⟩ : ByteArray) ++ t247) ++ (⟨#[59]⟩ : ByteArray)) ++ a1) ++ (⟨#[7]⟩ : ByteArray))) else (none)) else (none)) else (none)) else (none))) else (if a0 = 1 then (if 6 + a1.size ≤ 9223372036854775807 then (if 6 + a1.size + 1 ≤ 9223372036854775807 then ((spec_madeJoined.f k l2 (⟨#[59]⟩ : ByteArray)).bind fun t248 => (if 6 + a1.size + 1 + t248.size ≤ 9223372036854775807 then (if 6 + a1.size + 1 + t248.size + 1 ≤ 9223372036854775807 then (some (((((⟨#[27, 93, 55, 55, 55, 59]⟩ : ByteArray) ++ a1) ++ (⟨#[59]⟩ : ByteArray)) ++ t248) ++ (⟨#[7]⟩ : ByteArray))) else (none)) else (none))) else (none)) else (none)) else (if a0 = 3 then ((spec_madeJoined.f k l2 (⟨#[58]⟩ : ByteArray)).bind fun t249 => (if 5 + t249.size ≤ 9223372036854775807 then (if 5 + t249.size + 1 ≤ 9223372036854775807 then (if 5 + t249.size + 1 + a1.size ≤ 9223372036854775807 then (if 5 + t249.size + 1 + a1.size + 1 ≤ 9223372036854775807 then (some (((((⟨#[27, 93, 57, 57, 59]⟩ : ByteArray) ++ t249) ++ (⟨#[59]⟩ : ByteArray)) ++ a1) ++ (⟨#[7]⟩ : ByteArray))) else (none)) else (none)) else (none)) else (none))) else (if a0 = 4 then ((spec_madeJoined.f k l2 (⟨#[58]⟩ : ByteArray)).bind fun t250 => (if 4 + t250.size ≤ 9223372036854775807 then (if 4 + t250.size + 2 ≤ 9223372036854775807 then (some (((⟨#[27, 93, 56, 59]⟩ : ByteArray) ++ t250) ++ (⟨#[59, 7]⟩ : ByteArray))) else (none)) else (none))) else (if a0 = 5 then (if (l2.length : Int) = 0 then (some (⟨#[]⟩ : ByteArray)) else (spec_MadeTexts.l0 k ([] : List ByteArray) l2 (l2.length : Int) 0)) else (if a0 = 6 then ((spec_madeJoined.f k l2 (⟨#[59]⟩ : ByteArray)).bind fun t259 => (if 6 + t259.size ≤ 9223372036854775807 then (if 6 + t259.size + 1 ≤ 9223372036854775807 then (some (((⟨#[27, 93, 49, 51, 51, 59]⟩ : ByteArray) ++ t259) ++ (⟨#[7]⟩ : ByteArray))) else (none)) else (none))) else ((some (([(⟨#[65]⟩ : ByteArray), (⟨#[66]⟩ : ByteArray), (⟨#[67]⟩ : ByteArray), (⟨#[68]⟩ : ByteArray)] : List ByteArray) : List ByteArray)).bind fun y260 => (if 0 ≤ (wrap64 (a0 - 7)) then (if (wrap64 (a0 - 7)) < (y260.length : Int) then ((some (([rdOf ByteArray.empty y260 (wrap64 (a0 - 7))] : List ByteArray) : List ByteArray)).bind fun y264 => (if y264.length + l2.length < 8796093022208 then ((spec_madeJoined.f k (y264 ++ l2) (⟨#[59]⟩ : ByteArray)).bind fun t270 => (if 6 + t270.size ≤ 9223372036854775807 then (if 6 + t270.size + 1 ≤ 9223372036854775807 then (some (((⟨#[27, 93, 49, 51, 51, 59]⟩ : ByteArray) ++ t270) ++ (⟨#[7]⟩ : ByteArray))) else (none)) else (none))) else (none))) else (none)) else (none))))))))) = some r := h
  clear h
  by_cases c4 : a0 = 0
  · rw [if_pos c4] at H
    have c4b0 : (a0 == 0) = true := beq_iff_eq.mpr c4
    have c4b1 : (a0 != 0) = false := bne_eq_false_iff_eq.mpr c4
    clear c4
    replace H := Option.bind_eq_some_iff.mp H
    obtain ⟨t247, A50, H⟩ := H
    replace H : (if 4 + t247.size ≤ 9223372036854775807 then (if 4 + t247.size + 1 ≤ 9223372036854775807 then (if 4 + t247.size + 1 + a1.size ≤ 9223372036854775807 then (if 4 + t247.size + 1 + a1.size + 1 ≤ 9223372036854775807 then (some (((((⟨#[27, 93, 56, 59]⟩ : ByteArray) ++ t247) ++ (⟨#[59]⟩ : ByteArray)) ++ a1) ++ (⟨#[7]⟩ : ByteArray))) else (none)) else (none)) else (none)) else (none)) = some r := H
    have A5 := Aside0.mk A50
    clear A50
    by_cases c6 : 4 + t247.size ≤ 9223372036854775807
    · rw [if_pos c6] at H
      have c6b0 := eq_true c6
      have c6b1 : decide (4 + t247.size ≤ 9223372036854775807) = true := decide_eq_true c6
      try have c6b2 : (9223372036854775807 < 4 + t247.size) = False := eq_false (Nat.not_lt.2 c6)
      by_cases c7 : 4 + t247.size + 1 ≤ 9223372036854775807
      · rw [if_pos c7] at H
        have c7b0 := eq_true c7
        have c7b1 : decide (4 + t247.size + 1 ≤ 9223372036854775807) = true := decide_eq_true c7
        try have c7b2 : (9223372036854775807 < 4 + t247.size + 1) = False := eq_false (Nat.not_lt.2 c7)
        by_cases c8 : 4 + t247.size + 1 + a1.size ≤ 9223372036854775807
        · rw [if_pos c8] at H
          have c8b0 := eq_true c8
          have c8b1 : decide (4 + t247.size + 1 + a1.size ≤ 9223372036854775807) = true := decide_eq_true c8
          try have c8b2 : (9223372036854775807 < 4 + t247.size + 1 + a1.size) = False := eq_false (Nat.not_lt.2 c8)
          by_cases c9 : 4 + t247.size + 1 + a1.size + 1 ≤ 9223372036854775807
          · rw [if_pos c9] at H
            have c9b0 := eq_true c9
            have c9b1 : decide (4 + t247.size + 1 + a1.size + 1 ≤ 9223372036854775807) = true := decide_eq_true c9
            try have c9b2 : (9223372036854775807 < 4 + t247.size + 1 + a1.size + 1) = False := eq_false (Nat.not_lt.2 c9)
            obtain rfl := Option.some.inj H
            go_enter Tryd.func16, Tryd.ntmps16
            go_wp2_with (first | ((with_reducible refine gate_callee (f := 44) rfl ?_); refine goesL_ (some 16) rfl rfl Tryd.func44 (by kernel_rfl) rfl #[.slice A2 l2.length c2, .string (⟨#[58]⟩ : ByteArray)] rfl (by (try simp only [List.map_toArray, List.map_cons, List.map_nil]); first | done | rfl | (simp only [List.length_drop, List.length_take]; rfl) | (simp [Act.eval, *]; done)) ?_; (with_reducible refine (spec_madeJoined.calls k _ _ l2 (⟨#[58]⟩ : ByteArray) t247 _ ?side1 ?side2 A5.out).mono ?_); (case side1 => repeat (first | exact HR2.out | (with_reducible refine Kd.C_alloc ?_ _) | (with_reducible refine Kd.C_drewN ?_ _) | (with_reducible refine Kd.C_drew ?_))); (case side2 => exact HC2.out); rintro e w' ⟨rfl, ⟨nd, rfl⟩⟩; refine ⟨_, rfl, ?_⟩))
            go_ret
            exact ⟨by first | rfl | (simp [errW_none, errW_some] <;> rfl) | (simp [*, errW_none, errW_some] <;> rfl), by repeat (first | (with_reducible first | exact HB.out | apply below_alloc | apply Go.Proofs.YtjjkagjdbjpikaaDoor.Ext.below_bytes | apply pw_below_drewN | apply below_drew1) | exact HB.out)⟩
          · rw [if_neg c9] at H
            exact absurd H (by simp)
        · rw [if_neg c8] at H
          exact absurd H (by simp)
      · rw [if_neg c7] at H
        exact absurd H (by simp)
    · rw [if_neg c6] at H
      exact absurd H (by simp)
  · rw [if_neg c4] at H
    have c4b0 : (a0 == 0) = false := beq_eq_false_iff_ne.mpr c4
    have c4b1 : (a0 != 0) = true := bne_iff_ne.mpr c4
    by_cases c10 : a0 = 1
    · rw [if_pos c10] at H
      have c10b0 : (a0 == 1) = true := beq_iff_eq.mpr c10
      have c10b1 : (a0 != 1) = false := bne_eq_false_iff_eq.mpr c10
      clear c10
      by_cases c11 : 6 + a1.size ≤ 9223372036854775807
      · rw [if_pos c11] at H
        have c11b0 := eq_true c11
        have c11b1 : decide (6 + a1.size ≤ 9223372036854775807) = true := decide_eq_true c11
        try have c11b2 : (9223372036854775807 < 6 + a1.size) = False := eq_false (Nat.not_lt.2 c11)
        by_cases c12 : 6 + a1.size + 1 ≤ 9223372036854775807
        · rw [if_pos c12] at H
          have c12b0 := eq_true c12
          have c12b1 : decide (6 + a1.size + 1 ≤ 9223372036854775807) = true := decide_eq_true c12
          try have c12b2 : (9223372036854775807 < 6 + a1.size + 1) = False := eq_false (Nat.not_lt.2 c12)
          replace H := Option.bind_eq_some_iff.mp H
          obtain ⟨t248, A130, H⟩ := H
          replace H : (if 6 + a1.size + 1 + t248.size ≤ 9223372036854775807 then (if 6 + a1.size + 1 + t248.size + 1 ≤ 9223372036854775807 then (some (((((⟨#[27, 93, 55, 55, 55, 59]⟩ : ByteArray) ++ a1) ++ (⟨#[59]⟩ : ByteArray)) ++ t248) ++ (⟨#[7]⟩ : ByteArray))) else (none)) else (none)) = some r := H
          have A13 := Aside0.mk A130
          clear A130
          by_cases c14 : 6 + a1.size + 1 + t248.size ≤ 9223372036854775807
          · rw [if_pos c14] at H
            have c14b0 := eq_true c14
            have c14b1 : decide (6 + a1.size + 1 + t248.size ≤ 9223372036854775807) = true := decide_eq_true c14
            try have c14b2 : (9223372036854775807 < 6 + a1.size + 1 + t248.size) = False := eq_false (Nat.not_lt.2 c14)
            by_cases c15 : 6 + a1.size + 1 + t248.size + 1 ≤ 9223372036854775807
            · rw [if_pos c15] at H
              have c15b0 := eq_true c15
              have c15b1 : decide (6 + a1.size + 1 + t248.size + 1 ≤ 9223372036854775807) = true := decide_eq_true c15
              try have c15b2 : (9223372036854775807 < 6 + a1.size + 1 + t248.size + 1) = False := eq_false (Nat.not_lt.2 c15)
              obtain rfl := Option.some.inj H
              go_enter Tryd.func16, Tryd.ntmps16
              go_wp2_with (first | ((with_reducible refine gate_callee (f := 44) rfl ?_); refine goesL_ (some 28) rfl rfl Tryd.func44 (by kernel_rfl) rfl #[.slice A2 l2.length c2, .string (⟨#[59]⟩ : ByteArray)] rfl (by (try simp only [List.map_toArray, List.map_cons, List.map_nil]); first | done | rfl | (simp only [List.length_drop, List.length_take]; rfl) | (simp [Act.eval, *]; done)) ?_; (with_reducible refine (spec_madeJoined.calls k _ _ l2 (⟨#[59]⟩ : ByteArray) t248 _ ?side1 ?side2 A13.out).mono ?_); (case side1 => repeat (first | exact HR2.out | (with_reducible refine Kd.C_alloc ?_ _) | (with_reducible refine Kd.C_drewN ?_ _) | (with_reducible refine Kd.C_drew ?_))); (case side2 => exact HC2.out); rintro e w' ⟨rfl, ⟨nd, rfl⟩⟩; refine ⟨_, rfl, ?_⟩))
              go_ret
              exact ⟨by first | rfl | (simp [errW_none, errW_some] <;> rfl) | (simp [*, errW_none, errW_some] <;> rfl), by repeat (first | (with_reducible first | exact HB.out | apply below_alloc | apply Go.Proofs.YtjjkagjdbjpikaaDoor.Ext.below_bytes | apply pw_below_drewN | apply below_drew1) | exact HB.out)⟩
            · rw [if_neg c15] at H
              exact absurd H (by simp)
          · rw [if_neg c14] at H
            exact absurd H (by simp)
        · rw [if_neg c12] at H
          exact absurd H (by simp)
      · rw [if_neg c11] at H
        exact absurd H (by simp)
    · rw [if_neg c10] at H
      have c10b0 : (a0 == 1) = false := beq_eq_false_iff_ne.mpr c10
      have c10b1 : (a0 != 1) = true := bne_iff_ne.mpr c10
      by_cases c16 : a0 = 3
      · rw [if_pos c16] at H
        have c16b0 : (a0 == 3) = true := beq_iff_eq.mpr c16
        have c16b1 : (a0 != 3) = false := bne_eq_false_iff_eq.mpr c16
        clear c16
        replace H := Option.bind_eq_some_iff.mp H
        obtain ⟨t249, A170, H⟩ := H
        replace H : (if 5 + t249.size ≤ 9223372036854775807 then (if 5 + t249.size + 1 ≤ 9223372036854775807 then (if 5 + t249.size + 1 + a1.size ≤ 9223372036854775807 then (if 5 + t249.size + 1 + a1.size + 1 ≤ 9223372036854775807 then (some (((((⟨#[27, 93, 57, 57, 59]⟩ : ByteArray) ++ t249) ++ (⟨#[59]⟩ : ByteArray)) ++ a1) ++ (⟨#[7]⟩ : ByteArray))) else (none)) else (none)) else (none)) else (none)) = some r := H
        have A17 := Aside0.mk A170
        clear A170
        by_cases c18 : 5 + t249.size ≤ 9223372036854775807
        · rw [if_pos c18] at H
          have c18b0 := eq_true c18
          have c18b1 : decide (5 + t249.size ≤ 9223372036854775807) = true := decide_eq_true c18
          try have c18b2 : (9223372036854775807 < 5 + t249.size) = False := eq_false (Nat.not_lt.2 c18)
          by_cases c19 : 5 + t249.size + 1 ≤ 9223372036854775807
          · rw [if_pos c19] at H
            have c19b0 := eq_true c19
            have c19b1 : decide (5 + t249.size + 1 ≤ 9223372036854775807) = true := decide_eq_true c19
            try have c19b2 : (9223372036854775807 < 5 + t249.size + 1) = False := eq_false (Nat.not_lt.2 c19)
            by_cases c20 : 5 + t249.size + 1 + a1.size ≤ 9223372036854775807
            · rw [if_pos c20] at H
              have c20b0 := eq_true c20
              have c20b1 : decide (5 + t249.size + 1 + a1.size ≤ 9223372036854775807) = true := decide_eq_true c20
              try have c20b2 : (9223372036854775807 < 5 + t249.size + 1 + a1.size) = False := eq_false (Nat.not_lt.2 c20)
              by_cases c21 : 5 + t249.size + 1 + a1.size + 1 ≤ 9223372036854775807
              · rw [if_pos c21] at H
                have c21b0 := eq_true c21
                have c21b1 : decide (5 + t249.size + 1 + a1.size + 1 ≤ 9223372036854775807) = true := decide_eq_true c21
                try have c21b2 : (9223372036854775807 < 5 + t249.size + 1 + a1.size + 1) = False := eq_false (Nat.not_lt.2 c21)
                obtain rfl := Option.some.inj H
                go_enter Tryd.func16, Tryd.ntmps16
                go_wp2_with (first | ((with_reducible refine gate_callee (f := 44) rfl ?_); refine goesL_ (some 34) rfl rfl Tryd.func44 (by kernel_rfl) rfl #[.slice A2 l2.length c2, .string (⟨#[58]⟩ : ByteArray)] rfl (by (try simp only [List.map_toArray, List.map_cons, List.map_nil]); first | done | rfl | (simp only [List.length_drop, List.length_take]; rfl) | (simp [Act.eval, *]; done)) ?_; (with_reducible refine (spec_madeJoined.calls k _ _ l2 (⟨#[58]⟩ : ByteArray) t249 _ ?side1 ?side2 A17.out).mono ?_); (case side1 => repeat (first | exact HR2.out | (with_reducible refine Kd.C_alloc ?_ _) | (with_reducible refine Kd.C_drewN ?_ _) | (with_reducible refine Kd.C_drew ?_))); (case side2 => exact HC2.out); rintro e w' ⟨rfl, ⟨nd, rfl⟩⟩; refine ⟨_, rfl, ?_⟩))
                go_ret
                exact ⟨by first | rfl | (simp [errW_none, errW_some] <;> rfl) | (simp [*, errW_none, errW_some] <;> rfl), by repeat (first | (with_reducible first | exact HB.out | apply below_alloc | apply Go.Proofs.YtjjkagjdbjpikaaDoor.Ext.below_bytes | apply pw_below_drewN | apply below_drew1) | exact HB.out)⟩
              · rw [if_neg c21] at H
                exact absurd H (by simp)
            · rw [if_neg c20] at H
              exact absurd H (by simp)
          · rw [if_neg c19] at H
            exact absurd H (by simp)
        · rw [if_neg c18] at H
          exact absurd H (by simp)
      · rw [if_neg c16] at H
        have c16b0 : (a0 == 3) = false := beq_eq_false_iff_ne.mpr c16
        have c16b1 : (a0 != 3) = true := bne_iff_ne.mpr c16
        by_cases c22 : a0 = 4
        · rw [if_pos c22] at H
          have c22b0 : (a0 == 4) = true := beq_iff_eq.mpr c22
          have c22b1 : (a0 != 4) = false := bne_eq_false_iff_eq.mpr c22
          clear c22
          replace H := Option.bind_eq_some_iff.mp H
          obtain ⟨t250, A230, H⟩ := H
          replace H : (if 4 + t250.size ≤ 9223372036854775807 then (if 4 + t250.size + 2 ≤ 9223372036854775807 then (some (((⟨#[27, 93, 56, 59]⟩ : ByteArray) ++ t250) ++ (⟨#[59, 7]⟩ : ByteArray))) else (none)) else (none)) = some r := H
          have A23 := Aside0.mk A230
          clear A230
          by_cases c24 : 4 + t250.size ≤ 9223372036854775807
          · rw [if_pos c24] at H
            have c24b0 := eq_true c24
            have c24b1 : decide (4 + t250.size ≤ 9223372036854775807) = true := decide_eq_true c24
            try have c24b2 : (9223372036854775807 < 4 + t250.size) = False := eq_false (Nat.not_lt.2 c24)
            by_cases c25 : 4 + t250.size + 2 ≤ 9223372036854775807
            · rw [if_pos c25] at H
              have c25b0 := eq_true c25
              have c25b1 : decide (4 + t250.size + 2 ≤ 9223372036854775807) = true := decide_eq_true c25
              try have c25b2 : (9223372036854775807 < 4 + t250.size + 2) = False := eq_false (Nat.not_lt.2 c25)
              obtain rfl := Option.some.inj H
              go_enter Tryd.func16, Tryd.ntmps16
              go_wp2_with (first | ((with_reducible refine gate_callee (f := 44) rfl ?_); refine goesL_ (some 43) rfl rfl Tryd.func44 (by kernel_rfl) rfl #[.slice A2 l2.length c2, .string (⟨#[58]⟩ : ByteArray)] rfl (by (try simp only [List.map_toArray, List.map_cons, List.map_nil]); first | done | rfl | (simp only [List.length_drop, List.length_take]; rfl) | (simp [Act.eval, *]; done)) ?_; (with_reducible refine (spec_madeJoined.calls k _ _ l2 (⟨#[58]⟩ : ByteArray) t250 _ ?side1 ?side2 A23.out).mono ?_); (case side1 => repeat (first | exact HR2.out | (with_reducible refine Kd.C_alloc ?_ _) | (with_reducible refine Kd.C_drewN ?_ _) | (with_reducible refine Kd.C_drew ?_))); (case side2 => exact HC2.out); rintro e w' ⟨rfl, ⟨nd, rfl⟩⟩; refine ⟨_, rfl, ?_⟩))
              go_ret
              exact ⟨by first | rfl | (simp [errW_none, errW_some] <;> rfl) | (simp [*, errW_none, errW_some] <;> rfl), by repeat (first | (with_reducible first | exact HB.out | apply below_alloc | apply Go.Proofs.YtjjkagjdbjpikaaDoor.Ext.below_bytes | apply pw_below_drewN | apply below_drew1) | exact HB.out)⟩
            · rw [if_neg c25] at H
              exact absurd H (by simp)
          · rw [if_neg c24] at H
            exact absurd H (by simp)
        · rw [if_neg c22] at H
          have c22b0 : (a0 == 4) = false := beq_eq_false_iff_ne.mpr c22
          have c22b1 : (a0 != 4) = true := bne_iff_ne.mpr c22
          by_cases c26 : a0 = 5
          · rw [if_pos c26] at H
            have c26b0 : (a0 == 5) = true := beq_iff_eq.mpr c26
            have c26b1 : (a0 != 5) = false := bne_eq_false_iff_eq.mpr c26
            clear c26
            by_cases c27 : (l2.length : Int) = 0
            · rw [if_pos c27] at H
              have c27b0 : ((l2.length : Int) == 0) = true := beq_iff_eq.mpr c27
              have c27b1 : ((l2.length : Int) != 0) = false := bne_eq_false_iff_eq.mpr c27
              clear c27
              obtain rfl := Option.some.inj H
              go_enter Tryd.func16, Tryd.ntmps16
              go_wp2
              go_ret
              exact ⟨by first | rfl | (simp [errW_none, errW_some] <;> rfl) | (simp [*, errW_none, errW_some] <;> rfl), by repeat (first | (with_reducible first | exact HB.out | apply below_alloc | apply Go.Proofs.YtjjkagjdbjpikaaDoor.Ext.below_bytes | apply pw_below_drewN | apply below_drew1) | exact HB.out)⟩
            · rw [if_neg c27] at H
              have c27b0 : ((l2.length : Int) == 0) = false := beq_eq_false_iff_ne.mpr c27
              have c27b1 : ((l2.length : Int) != 0) = true := bne_iff_ne.mpr c27
              have c27b2 : ¬ (l2 = []) := fun h_ => c27 (by rw [h_]; rfl)
              have H' := Aside0.mk H
              clear H
              go_enter Tryd.func16, Tryd.ntmps16
              go_wp2
              go_loopg [7, 53] k (fun kq v7 v53 w' => ∃ (x7_1 : List ByteArray) (x53_1 : Int), v53 = .int .i64 x53_1 ∧ Aside0 (spec_MadeTexts.l0 kq x7_1 l2 (l2.length : Int) x53_1 = some r) ∧ Aside0 (kq ≤ k) ∧ Aside0 (Kd.R Kd.string 9 w' w.heap.size (fun _ => True) v7 x7_1) ∧ Aside0 (Below w.heap.size w w'))
              case atStart => exact ⟨(([] : List ByteArray)), (0), (by first | rfl | (simp; done) | (simp [*]; done)), H', ⟨Nat.le_refl _⟩, ⟨by first | exact Kd.R_nil _ _ _ _ _ | exact Kd.N_nil _ _ _ _ _ | exact Kd.V_nil _ _ _ _ _ | exact Kd.Q_nil _ _ _ _ _ | exact Kd.S_nil _ _ _ _ _⟩, ⟨by repeat (first | (with_reducible first | exact HB.out | apply below_alloc | apply Go.Proofs.YtjjkagjdbjpikaaDoor.Ext.below_bytes | apply pw_below_drewN | apply below_drew1) | exact HB.out)⟩⟩
              case round =>
                clear H'
                try clear c1
                try clear c2
                try clear p2
                try clear c4
                try clear c4b0
                try clear c4b1
                try clear c6
                try clear c6b0
                try clear c6b1
                try clear c6b2
                try clear p6
                try clear c7
                try clear c7b0
                try clear c7b1
                try clear c7b2
                try clear c8
                try clear c8b0
                try clear c8b1
                try clear c8b2
                try clear c9
                try clear c9b0
                try clear c9b1
                try clear c9b2
                try clear c10
                try clear c10b0
                try clear c10b1
                try clear c11
                try clear c11b0
                try clear c11b1
                try clear c11b2
                try clear c12
                try clear c12b0
                try clear c12b1
                try clear c12b2
                try clear c14
                try clear c14b0
                try clear c14b1
                try clear c14b2
                try clear c15
                try clear c15b0
                try clear c15b1
                try clear c15b2
                try clear c16
                try clear c16b0
                try clear c16b1
                try clear c18
                try clear c18b0
                try clear c18b1
                try clear c18b2
                try clear c19
                try clear c19b0
                try clear c19b1
                try clear c19b2
                try clear c20
                try clear c20b0
                try clear c20b1
                try clear c20b2
                try clear c21
                try clear c21b0
                try clear c21b1
                try clear c21b2
                try clear c22
                try clear c22b0
                try clear c22b1
                try clear c24
                try clear c24b0
                try clear c24b1
                try clear c24b2
                try clear c25
                try clear c25b0
                try clear c25b1
                try clear c25b2
                try clear c26
                try clear c26b0
                try clear c26b1
                try clear c27
                try clear c27b0
                try clear c27b1
                try clear c27b2
                obtain ⟨x7_1, x53_1, rfl, HA, HK1, HO_7, HB⟩ := hrel
                cases gk with
                | zero => exact absurd HA.out (by simp [spec_MadeTexts.l0])
                | succ k1 =>
                  have H := HA.out
                  clear HA
                  simp only [spec_MadeTexts.l0] at H
                  by_cases c28 : x53_1 < (l2.length : Int)
                  · rw [if_pos c28] at H
                    have c28b0 : decide (x53_1 < (l2.length : Int)) = true := decide_eq_true c28
                    clear c28
                    by_cases c29 : 0 ≤ x53_1
                    · rw [if_pos c29] at H
                      have c29b0 : decide (0 ≤ x53_1) = true := decide_eq_true c29
                      clear c29
                      by_cases c30 : x53_1 < (l2.length : Int)
                      · rw [if_pos c30] at H
                        have c30b0 : decide (x53_1 < (l2.length : Int)) = true := decide_eq_true c30
                        clear c30
                        have H' := Aside0.mk H
                        clear H
                        have p252 : 0 ≤ (x53_1 : Int) := of_decide_eq_true (by first | (with_reducible assumption) | assumption)
                        have q252 : x53_1 < (l2.length : Int) := of_decide_eq_true (by first | (with_reducible assumption) | assumption)
                        obtain ⟨ad252, e252, hx252_0⟩ := Kd.at_string HR2.out x53_1 p252 q252
                        cases e252
                        replace hx252_0 := (HB.out.cell (World.block_lt_of_cell? w _ hx252_0)).trans hx252_0
                        replace p252 := eq_true p252
                        replace q252 := eq_true q252
                        go_wp2
                        go_loopg [10, 11] k1 (fun kq v10 v11 w' => ∃ (x10_2 : ByteArray) (x11_2 : Int), v10 = .string x10_2 ∧ v11 = .int .i64 x11_2 ∧ Aside0 (spec_MadeTexts.l1 kq x7_1 (rdOf ByteArray.empty l2 x53_1) x10_2 x11_2 l2 (l2.length : Int) x53_1 = some r) ∧ Aside0 (kq ≤ k1) ∧ Aside0 (Kd.R Kd.string 9 w' w.heap.size (fun _ => True) u7 x7_1) ∧ Aside0 (Below w.heap.size w w'))
                        case atStart => exact ⟨((⟨#[]⟩ : ByteArray)), (0), (by first | rfl | (simp; done) | (simp [*]; done)), (by first | rfl | (simp; done) | (simp [*]; done)), H', ⟨Nat.le_refl _⟩, ⟨by (with_reducible repeat (first | apply Kd.R_alloc | apply Go.Proofs.YtjjkagjdbjpikaaDoor.Ext.R_bytes | apply Kd.R_drewN | apply Kd.R_drew)); exact HO_7.out⟩, ⟨by repeat (first | (with_reducible first | exact HB.out | apply below_alloc | apply Go.Proofs.YtjjkagjdbjpikaaDoor.Ext.below_bytes | apply pw_below_drewN | apply below_drew1) | exact HB.out)⟩⟩
                        case round =>
                          clear H'
                          try clear c1
                          try clear c2
                          try clear p2
                          try clear q2
                          try clear hx2
                          try clear c3
                          try clear c4
                          try clear c4b0
                          try clear c4b1
                          try clear c6
                          try clear c6b0
                          try clear c6b1
                          try clear c6b2
                          try clear p6
                          try clear c7
                          try clear c7b0
                          try clear c7b1
                          try clear c7b2
                          try clear c8
                          try clear c8b0
                          try clear c8b1
                          try clear c8b2
                          try clear c9
                          try clear c9b0
                          try clear c9b1
                          try clear c9b2
                          try clear c10
                          try clear c10b0
                          try clear c10b1
                          try clear c11
                          try clear c11b0
                          try clear c11b1
                          try clear c11b2
                          try clear c12
                          try clear c12b0
                          try clear c12b1
                          try clear c12b2
                          try clear c14
                          try clear c14b0
                          try clear c14b1
                          try clear c14b2
                          try clear c15
                          try clear c15b0
                          try clear c15b1
                          try clear c15b2
                          try clear c16
                          try clear c16b0
                          try clear c16b1
                          try clear c18
                          try clear c18b0
                          try clear c18b1
                          try clear c18b2
                          try clear c19
                          try clear c19b0
                          try clear c19b1
                          try clear c19b2
                          try clear c20
                          try clear c20b0
                          try clear c20b1
                          try clear c20b2
                          try clear c21
                          try clear c21b0
                          try clear c21b1
                          try clear c21b2
                          try clear c22
                          try clear c22b0
                          try clear c22b1
                          try clear c24
                          try clear c24b0
                          try clear c24b1
                          try clear c24b2
                          try clear c25
                          try clear c25b0
                          try clear c25b1
                          try clear c25b2
                          try clear p25
                          try clear q25
                          try clear hx25
                          try clear c26
                          try clear c26b0
                          try clear c26b1
                          try clear c27
                          try clear c27b0
                          try clear c27b1
                          try clear c27b2
                          try clear c28
                          try clear c28b0
                          try clear c29
                          try clear c29b0
                          try clear c30
                          try clear c30b0
                          try clear hx252_0
                          try clear p2
                          try clear p252
                          try clear p6
                          try clear q252
                          obtain ⟨x10_2, x11_2, rfl, rfl, HA, HK2, HO_7, HB⟩ := hrel
                          cases gk with
                          | zero => exact absurd HA.out (by simp [spec_MadeTexts.l1])
                          | succ k2 =>
                            have H := HA.out
                            clear HA
                            simp only [spec_MadeTexts.l1] at H
                            by_cases c31 : x11_2 < ((rdOf ByteArray.empty l2 x53_1).size : Int)
                            · rw [if_pos c31] at H
                              have c31b0 : decide (x11_2 < ((rdOf ByteArray.empty l2 x53_1).size : Int)) = true := decide_eq_true c31
                              clear c31
                              by_cases c32 : 0 ≤ x11_2
                              · rw [if_pos c32] at H
                                have c32b0 : decide (0 ≤ x11_2) = true := decide_eq_true c32
                                clear c32
                                obtain ⟨ji34, hji34⟩ : ∃ j_ : Int, ((bt (rdOf ByteArray.empty l2 x53_1) x11_2) / 16) = j_ := ⟨_, rfl⟩
                                replace H : (if 0 ≤ (ji34) then (if (ji34) < 16 then (if 0 ≤ (Go.bits .and .u8 (bt (rdOf ByteArray.empty l2 x53_1) x11_2) 15) then (if (Go.bits .and .u8 (bt (rdOf ByteArray.empty l2 x53_1) x11_2) 15) < 16 then ((some (([bt (⟨#[48, 49, 50, 51, 52, 53, 54, 55, 56, 57, 65, 66, 67, 68, 69, 70]⟩ : ByteArray) (ji34), bt (⟨#[48, 49, 50, 51, 52, 53, 54, 55, 56, 57, 65, 66, 67, 68, 69, 70]⟩ : ByteArray) (Go.bits .and .u8 (bt (rdOf ByteArray.empty l2 x53_1) x11_2) 15)] : List Int) : List Int)).bind fun y253 => (if x10_2.size + (strOfNums y253).size ≤ 9223372036854775807 then (spec_MadeTexts.l1 k2 x7_1 (rdOf ByteArray.empty l2 x53_1) (x10_2 ++ (strOfNums y253)) (wrap64 (x11_2 + 1)) l2 (l2.length : Int) x53_1) else (none))) else (none)) else (none)) else (none)) else (none)) = some r := by first | (rw [hji34] at H; exact H) | (simp only [hji34] at H ⊢; exact H)
                                by_cases c35 : 0 ≤ (ji34)
                                · rw [if_pos c35] at H
                                  have c35b0 : decide (0 ≤ (ji34)) = true := decide_eq_true c35
                                  clear c35
                                  by_cases c36 : (ji34) < 16
                                  · rw [if_pos c36] at H
                                    have c36b0 : decide ((ji34) < 16) = true := decide_eq_true c36
                                    clear c36
                                    by_cases c39 : 0 ≤ (Go.bits .and .u8 (bt (rdOf ByteArray.empty l2 x53_1) x11_2) 15)
                                    · rw [if_pos c39] at H
                                      have c39b0 : decide (0 ≤ (Go.bits .and .u8 (bt (rdOf ByteArray.empty l2 x53_1) x11_2) 15)) = true := decide_eq_true c39
                                      clear c39
                                      by_cases c40 : (Go.bits .and .u8 (bt (rdOf ByteArray.empty l2 x53_1) x11_2) 15) < 16
                                      · rw [if_pos c40] at H
                                        have c40b0 : decide ((Go.bits .and .u8 (bt (rdOf ByteArray.empty l2 x53_1) x11_2) 15) < 16) = true := decide_eq_true c40
                                        clear c40
                                        obtain ⟨y253, hy253⟩ : ∃ y_ : List Int, y_ = (([bt (⟨#[48, 49, 50, 51, 52, 53, 54, 55, 56, 57, 65, 66, 67, 68, 69, 70]⟩ : ByteArray) (ji34), bt (⟨#[48, 49, 50, 51, 52, 53, 54, 55, 56, 57, 65, 66, 67, 68, 69, 70]⟩ : ByteArray) (Go.bits .and .u8 (bt (rdOf ByteArray.empty l2 x53_1) x11_2) 15)] : List Int)) := ⟨_, rfl⟩
                                        replace H : (if x10_2.size + (strOfNums y253).size ≤ 9223372036854775807 then (spec_MadeTexts.l1 k2 x7_1 (rdOf ByteArray.empty l2 x53_1) (x10_2 ++ (strOfNums y253)) (wrap64 (x11_2 + 1)) l2 (l2.length : Int) x53_1) else (none)) = some r := by first | (rw [hy253]; with_reducible exact H) | (have H2_ := (Option.bind_some _ _).symm.trans H; rw [hy253]; with_reducible exact H2_) | (have H2_ := (Option.bind_some _ _).symm.trans H; with_reducible exact H2_) | with_reducible exact H | (rw [hy253]; exact H) | exact H
                                        have Ny253 := Aside0.mk hy253
                                        clear hy253
                                        by_cases c42 : x10_2.size + (strOfNums y253).size ≤ 9223372036854775807
                                        · rw [if_pos c42] at H
                                          have c42b0 := eq_true c42
                                          have c42b1 : decide (x10_2.size + (strOfNums y253).size ≤ 9223372036854775807) = true := decide_eq_true c42
                                          try have c42b2 : (9223372036854775807 < x10_2.size + (strOfNums y253).size) = False := eq_false (Nat.not_lt.2 c42)
                                          have H' := Aside0.mk H
                                          clear H
                                          try go_wp2
                                          have n0_ := Aside0.mk (Kd.R_drew HO_7.out)
                                          have n1_ := Aside0.mk (below_drew1 HB.out)
                                          clear HO_7
                                          clear HB
                                          have HO_7 := n0_
                                          have HB := n1_
                                          clear n0_ n1_
                                          have p33 : 0 ≤ (x11_2 : Int) := of_decide_eq_true (by first | (with_reducible assumption) | assumption)
                                          have q33 : x11_2 < ((rdOf ByteArray.empty l2 x53_1).size : Int) := of_decide_eq_true (by first | (with_reducible assumption) | assumption)
                                          have hx33 := bt_at (rdOf ByteArray.empty l2 x53_1) x11_2
                                          replace p33 := eq_true p33
                                          replace q33 := eq_true q33
                                          have p37 : 0 ≤ ((ji34) : Int) := of_decide_eq_true (by first | (with_reducible assumption) | assumption)
                                          have q37 : (ji34) < (16 : Int) := of_decide_eq_true (by first | (with_reducible assumption) | assumption)
                                          have hx37 := bt_at (⟨#[48, 49, 50, 51, 52, 53, 54, 55, 56, 57, 65, 66, 67, 68, 69, 70]⟩ : ByteArray) (ji34)
                                          replace p37 := eq_true p37
                                          replace q37 := eq_true q37
                                          have p38 : 0 ≤ (x11_2 : Int) := of_decide_eq_true (by first | (with_reducible assumption) | assumption)
                                          have q38 : x11_2 < ((rdOf ByteArray.empty l2 x53_1).size : Int) := of_decide_eq_true (by first | (with_reducible assumption) | assumption)
                                          have hx38 := bt_at (rdOf ByteArray.empty l2 x53_1) x11_2
                                          replace p38 := eq_true p38
                                          replace q38 := eq_true q38
                                          have p41 : 0 ≤ ((Go.bits .and .u8 (bt (rdOf ByteArray.empty l2 x53_1) x11_2) 15) : Int) := of_decide_eq_true (by first | (with_reducible assumption) | assumption)
                                          have q41 : (Go.bits .and .u8 (bt (rdOf ByteArray.empty l2 x53_1) x11_2) 15) < (16 : Int) := of_decide_eq_true (by first | (with_reducible assumption) | assumption)
                                          have hx41 := bt_at (⟨#[48, 49, 50, 51, 52, 53, 54, 55, 56, 57, 65, 66, 67, 68, 69, 70]⟩ : ByteArray) (Go.bits .and .u8 (bt (rdOf ByteArray.empty l2 x53_1) x11_2) 15)
                                          replace p41 := eq_true p41
                                          replace q41 := eq_true q41
                                          refine start_ (n := 15) (S := fun w' => True) (ds := []) #[false, false, false, false, false, false, false, false, false, false, false, false, false, false, false] (by kernel_rfl) rfl rfl trivial (fun hHeld => ?_); refine with_tabW spec_MadeTexts.tab21 spec_MadeTexts.bits21 (fun HT_ HW_ => ?_)
                                          generalize wr.drew = w43 at HO_7 HB hHeld ⊢
                                          refine pure_ (i := 0) (N := some 63) (v := ?_) (a' := ?_) #[true, false, false, false, false, false, false, false, false, false, false, false, false, false, false] rfl rfl (any_of HT_.out (by kernel_rfl)) (fun _ _ _ h => h) (Or.inl ⟨by rfl, ?_⟩) ?_ ?_
                                          rotate_left
                                          · intro w'
                                            go_simp
                                            with_reducible rfl
                                          rotate_left
                                          · simp only [Act.put, List.setIfInBounds_toArray, List.set_cons_zero, List.set_cons_succ, i64_w, i32_w]
                                            rfl
                                          refine pure_ (i := 1) (N := some 64) (v := ?_) (a' := ?_) #[true, true, false, false, false, false, false, false, false, false, false, false, false, false, false] rfl rfl (any_of HT_.out (by kernel_rfl)) (fun _ _ _ h => h) (Or.inl ⟨by rfl, ?_⟩) ?_ ?_
                                          rotate_left
                                          · intro w'
                                            go_simp
                                            with_reducible rfl
                                          rotate_left
                                          · simp only [Act.put, List.setIfInBounds_toArray, List.set_cons_zero, List.set_cons_succ, i64_w, i32_w]
                                            rfl
                                          refine pure_ (i := 2) (N := some 65) (v := ?_) (a' := ?_) #[true, true, true, false, false, false, false, false, false, false, false, false, false, false, false] rfl rfl (any_of HT_.out (by kernel_rfl)) (fun _ _ _ h => h) (Or.inl ⟨by rfl, ?_⟩) ?_ ?_
                                          rotate_left
                                          · intro w'
                                            go_simp
                                            with_reducible rfl
                                          rotate_left
                                          · simp only [Act.put, List.setIfInBounds_toArray, List.set_cons_zero, List.set_cons_succ, i64_w, i32_w]
                                            rfl
                                          refine pure_ (i := 6) (N := some 69) (v := ?_) (a' := ?_) #[true, true, true, false, false, false, true, false, false, false, false, false, false, false, false] rfl rfl (any_of HT_.out (by kernel_rfl)) (fun _ _ _ h => h) (Or.inl ⟨by rfl, ?_⟩) ?_ ?_
                                          rotate_left
                                          · intro w'
                                            go_simp
                                            with_reducible rfl
                                          rotate_left
                                          · simp only [Act.put, List.setIfInBounds_toArray, List.set_cons_zero, List.set_cons_succ, i64_w, i32_w]
                                            rfl
                                          refine pure_ (i := 7) (N := some 70) (v := ?_) (a' := ?_) #[true, true, true, false, false, false, true, true, false, false, false, false, false, false, false] rfl rfl (any_of HT_.out (by kernel_rfl)) (fun _ _ _ h => h) (Or.inl ⟨by rfl, ?_⟩) ?_ ?_
                                          rotate_left
                                          · intro w'
                                            go_simp
                                            with_reducible rfl
                                          rotate_left
                                          · simp only [Act.put, List.setIfInBounds_toArray, List.set_cons_zero, List.set_cons_succ, i64_w, i32_w]
                                            rfl
                                          refine take_ (i := 3) (N := some 66) (v := ?_) (a' := ?_) #[true, true, true, true, false, false, true, true, false, false, false, false, false, false, false] rfl rfl (take_ofW HT_.out HW_.out (by kernel_rfl)) (fun _ _ _ h => h) (Or.inl ⟨by rfl, ?_⟩) hHeld ?_ ?_
                                          rotate_left
                                          · intro w' _
                                            go_simp
                                            with_reducible rfl
                                          rotate_left
                                          · simp only [Act.put, List.setIfInBounds_toArray, List.set_cons_zero, List.set_cons_succ, i64_w, i32_w]
                                            rfl
                                          refine pure_ (i := 4) (N := some 67) (v := ?_) (a' := ?_) #[true, true, true, true, true, false, true, true, false, false, false, false, false, false, false] rfl rfl (any_of HT_.out (by kernel_rfl)) (fun _ _ _ h => h) (Or.inl ⟨by rfl, ?_⟩) ?_ ?_
                                          rotate_left
                                          · intro w'
                                            go_simp
                                            with_reducible rfl
                                          rotate_left
                                          · simp only [Act.put, List.setIfInBounds_toArray, List.set_cons_zero, List.set_cons_succ, i64_w, i32_w]
                                            rfl
                                          refine take_ (i := 5) (N := some 68) (v := ?_) (a' := ?_) #[true, true, true, true, true, true, true, true, false, false, false, false, false, false, false] rfl rfl (take_ofW HT_.out HW_.out (by kernel_rfl)) (fun _ _ _ h => h) (Or.inl ⟨by rfl, ?_⟩) hHeld ?_ ?_
                                          rotate_left
                                          · intro w' _
                                            go_simp
                                            with_reducible rfl
                                          rotate_left
                                          · simp only [Act.put, List.setIfInBounds_toArray, List.set_cons_zero, List.set_cons_succ, i64_w, i32_w]
                                            rfl
                                          refine take_ (i := 8) (N := some 71) (v := ?_) (a' := ?_) #[true, true, true, true, true, true, true, true, true, false, false, false, false, false, false] rfl rfl (take_ofW HT_.out HW_.out (by kernel_rfl)) (fun _ _ _ h => h) (Or.inl ⟨by rfl, ?_⟩) hHeld ?_ ?_
                                          rotate_left
                                          · intro w' _
                                            go_simp
                                            with_reducible rfl
                                          rotate_left
                                          · simp only [Act.put, List.setIfInBounds_toArray, List.set_cons_zero, List.set_cons_succ, i64_w, i32_w]
                                            rfl
                                          refine pure_ (i := 9) (N := some 72) (v := ?_) (a' := ?_) #[true, true, true, true, true, true, true, true, true, true, false, false, false, false, false] rfl rfl (any_of HT_.out (by kernel_rfl)) (fun _ _ _ h => h) (Or.inl ⟨by rfl, ?_⟩) ?_ ?_
                                          rotate_left
                                          · intro w'
                                            go_simp
                                            with_reducible rfl
                                          rotate_left
                                          · simp only [Act.put, List.setIfInBounds_toArray, List.set_cons_zero, List.set_cons_succ, i64_w, i32_w]
                                            rfl
                                          refine take_ (i := 10) (N := some 73) (v := ?_) (a' := ?_) #[true, true, true, true, true, true, true, true, true, true, true, false, false, false, false] rfl rfl (take_ofW HT_.out HW_.out (by kernel_rfl)) (fun _ _ _ h => h) (Or.inl ⟨by rfl, ?_⟩) hHeld ?_ ?_
                                          rotate_left
                                          · intro w' _
                                            go_simp
                                            with_reducible rfl
                                          rotate_left
                                          · simp only [Act.put, List.setIfInBounds_toArray, List.set_cons_zero, List.set_cons_succ, i64_w, i32_w]
                                            rfl
                                          refine one_ (i := 11) (N := some 74) #[true, true, true, true, true, true, true, true, true, true, true, true, false, false, false] rfl rfl (one_of HT_.out (by kernel_rfl)) (by decide) (fun K hK => ?_)
                                          refine Kd.R_lit_step (Kd.int .u8) _ 5 ?hg (N := 74) ?hd (xs := ([bt (⟨#[48, 49, 50, 51, 52, 53, 54, 55, 56, 57, 65, 66, 67, 68, 69, 70]⟩ : ByteArray) (ji34), bt (⟨#[48, 49, 50, 51, 52, 53, 54, 55, 56, 57, 65, 66, 67, 68, 69, 70]⟩ : ByteArray) (Go.bits .and .u8 (bt (rdOf ByteArray.empty l2 x53_1) x11_2) 15)] : List Int)) (inner := [.int .u8 (bt (⟨#[48, 49, 50, 51, 52, 53, 54, 55, 56, 57, 65, 66, 67, 68, 69, 70]⟩ : ByteArray) (ji34)), .int .u8 (bt (⟨#[48, 49, 50, 51, 52, 53, 54, 55, 56, 57, 65, 66, 67, 68, 69, 70]⟩ : ByteArray) (Go.bits .and .u8 (bt (rdOf ByteArray.empty l2 x53_1) x11_2) 15))]) (ok := fun _ => True) (okp := fun _ => True) ?hr ?hp (fun _ hk => hk) trivial (Below.refl _ _) (Nat.le_refl _) (by simp) ?_; (case hd => rfl); (case hg => rfl); (case hr => first | (go_simp; done) | (go_simp; rfl)); (case hp => exact (Reps.one (show Kd.M (Kd.int .u8) _ _ _ (bt (⟨#[48, 49, 50, 51, 52, 53, 54, 55, 56, 57, 65, 66, 67, 68, 69, 70]⟩ : ByteArray) (ji34)) [.int .u8 (bt (⟨#[48, 49, 50, 51, 52, 53, 54, 55, 56, 57, 65, 66, 67, 68, 69, 70]⟩ : ByteArray) (ji34))] from rfl) (Reps.one (show Kd.M (Kd.int .u8) _ _ _ (bt (⟨#[48, 49, 50, 51, 52, 53, 54, 55, 56, 57, 65, 66, 67, 68, 69, 70]⟩ : ByteArray) (Go.bits .and .u8 (bt (rdOf ByteArray.empty l2 x53_1) x11_2) 15)) [.int .u8 (bt (⟨#[48, 49, 50, 51, 52, 53, 54, 55, 56, 57, 65, 66, 67, 68, 69, 70]⟩ : ByteArray) (Go.bits .and .u8 (bt (rdOf ByteArray.empty l2 x53_1) x11_2) 15))] from rfl) (Reps.none _ _))))
                                          intro v254 w44 ho45 hb hg_ hnew_
                                          clear hg_ hnew_
                                          (first | rw [← Ny253.out] at ho45 | (simp only [Int.reduceToNat] at ho45; rw [← Ny253.out] at ho45))
                                          have n0_ := Aside0.mk (Kd.R_below (by (with_reducible repeat (first | apply Kd.R_alloc | apply Go.Proofs.YtjjkagjdbjpikaaDoor.Ext.R_bytes | apply Kd.R_drewN | apply Kd.R_drew)); exact HO_7.out) hb)
                                          have n1_ := Aside0.mk (Kd.R_lower ho45 (below_size (by repeat (first | (with_reducible first | exact HB.out | apply below_alloc | apply Go.Proofs.YtjjkagjdbjpikaaDoor.Ext.below_bytes | apply pw_below_drewN | apply below_drew1) | exact HB.out))))
                                          have n2_ := Aside0.mk (below_step (by repeat (first | (with_reducible first | exact HB.out | apply below_alloc | apply Go.Proofs.YtjjkagjdbjpikaaDoor.Ext.below_bytes | apply pw_below_drewN | apply below_drew1) | exact HB.out)) hb)
                                          clear HO_7
                                          clear HB
                                          have HO_7 := n0_
                                          have HO255 := n1_
                                          have HB := n2_
                                          clear n0_ n1_ n2_
                                          clear hb ho45
                                          refine hK.out _ _ trivial (fun hHeld => ?_)
                                          clear hK K
                                          refine norm_ (a' := ?_) ?_ ?_
                                          rotate_left
                                          · show Act.put _ (some 74) _ = _
                                            simp only [Act.put, List.setIfInBounds_toArray, List.set_cons_zero, List.set_cons_succ, i64_w, i32_w]
                                            rfl
                                          refine one_ (i := 12) (N := some 75) #[true, true, true, true, true, true, true, true, true, true, true, true, true, false, false] rfl rfl (one_of HT_.out (by kernel_rfl)) (by decide) (fun K hK => ?_)
                                          have hcv46 := own_string (P := Tryd.prog) Tryd.underlying32 Tryd.underlying5 Tryd.underlying9 (Kd.own_of_R HO255.out)
                                          refine value_ (w1 := ?_) (v := ?_) (by rfl) rfl ?_ ?_
                                          rotate_left 2
                                          · go_simp
                                            constructor
                                            · rfl
                                            · rfl
                                          clear hcv46
                                          refine hK.out _ _ trivial (fun hHeld => ?_)
                                          clear hK K
                                          refine norm_ (a' := ?_) ?_ ?_
                                          rotate_left
                                          · show Act.put _ (some 75) _ = _
                                            simp only [Act.put, List.setIfInBounds_toArray, List.set_cons_zero, List.set_cons_succ, i64_w, i32_w]
                                            rfl
                                          refine pure_ (i := 13) (N := some 76) (v := ?_) (a' := ?_) #[true, true, true, true, true, true, true, true, true, true, true, true, true, true, false] rfl rfl (any_of HT_.out (by kernel_rfl)) (fun _ _ _ h => h) (Or.inl ⟨by rfl, ?_⟩) ?_ ?_
                                          rotate_left
                                          · intro w'
                                            go_simp
                                            with_reducible rfl
                                          rotate_left
                                          · simp only [Act.put, List.setIfInBounds_toArray, List.set_cons_zero, List.set_cons_succ, i64_w, i32_w]
                                            rfl
                                          refine pure_ (i := 14) (N := some 10) (v := ?_) (a' := ?_) #[true, true, true, true, true, true, true, true, true, true, true, true, true, true, true] rfl rfl (any_of HT_.out (by kernel_rfl)) (fun _ _ _ h => h) (Or.inl ⟨by rfl, ?_⟩) ?_ ?_
                                          rotate_left
                                          · intro w'
                                            go_simp
                                            with_reducible rfl
                                          rotate_left
                                          · simp only [Act.put, List.setIfInBounds_toArray, List.set_cons_zero, List.set_cons_succ, i64_w, i32_w]
                                            rfl
                                          refine done_ (done_of HT_.out (by kernel_rfl)) ?_
                                          try go_wp2
                                          go_roundg k2
                                          case measure => have := HK1.out; have := HK2.out; omega
                                          case rel => exact ⟨(x10_2 ++ (strOfNums y253)), (wrap64 (x11_2 + 1)), (by first | rfl | (simp; done) | (simp [*]; done)), (by first | rfl | (simp; done) | (simp [*]; done)), H', ⟨by have := HK1.out; have := HK2.out; omega⟩, ⟨by (with_reducible repeat (first | apply Kd.R_alloc | apply Go.Proofs.YtjjkagjdbjpikaaDoor.Ext.R_bytes | apply Kd.R_drewN | apply Kd.R_drew)); exact HO_7.out⟩, ⟨by repeat (first | (with_reducible first | exact HB.out | apply below_alloc | apply Go.Proofs.YtjjkagjdbjpikaaDoor.Ext.below_bytes | apply pw_below_drewN | apply below_drew1) | exact HB.out)⟩⟩
                                        · rw [if_neg c42] at H
                                          exact absurd H (by simp)
                                      · rw [if_neg c40] at H
                                        exact absurd H (by simp)
                                    · rw [if_neg c39] at H
                                      exact absurd H (by simp)
                                  · rw [if_neg c36] at H
                                    exact absurd H (by simp)
                                · rw [if_neg c35] at H
                                  exact absurd H (by simp)
                              · rw [if_neg c32] at H
                                exact absurd H (by simp)
                            · rw [if_neg c31] at H
                              have c31b0 : decide (x11_2 < ((rdOf ByteArray.empty l2 x53_1).size : Int)) = false := decide_eq_false c31
                              clear c31
                              by_cases c47 : x7_1.length < 8796093022208
                              · rw [if_pos c47] at H
                                have LMc47 := Aside0.mk c47
                                clear c47
                                obtain ⟨y256, hy256⟩ : ∃ y_ : List ByteArray, y_ = (x7_1 ++ [x10_2]) := ⟨_, rfl⟩
                                replace H : (spec_MadeTexts.l0 k2 y256 l2 (l2.length : Int) (wrap64 (x53_1 + 1))) = some r := by first | (rw [hy256]; with_reducible exact H) | (have H2_ := (Option.bind_some _ _).symm.trans H; rw [hy256]; with_reducible exact H2_) | (have H2_ := (Option.bind_some _ _).symm.trans H; with_reducible exact H2_) | with_reducible exact H | (rw [hy256]; exact H) | exact H
                                have Ny256 := Aside0.mk hy256
                                clear hy256
                                have H' := Aside0.mk H
                                clear H
                                go_wp2_with (first | ((with_reducible refine gate_builtin (b := .append) (xs := #[.tmp 77, .tmp 79]) rfl ?_); at_builtin; refine Kd.R_append Kd.string (w0 := w) w.heap.size rfl (.tmp 77) (.tmp 79) 22 9 (.string ⟨#[]⟩) 16 rfl Tryd.underlying22 info9 rfl (by decide) (by omega) u7 x7_1 x10_2 [.string x10_2] (fun _ => True) (fun _ => False) rfl rfl ?aP (fun _ hk => hk.elim) ?aF ?aO ?aB ?aS ?aL ?_; (case aP => exact rfl); (case aB => exact (by repeat (first | (with_reducible first | exact HB.out | apply below_alloc | apply Go.Proofs.YtjjkagjdbjpikaaDoor.Ext.below_bytes | apply pw_below_drewN | apply below_drew1) | exact HB.out))); (case aF => exact (fun _ _ => trivial)); (case aO => exact (by (with_reducible repeat (first | apply Kd.R_alloc | apply Go.Proofs.YtjjkagjdbjpikaaDoor.Ext.R_bytes | apply Kd.R_drewN | apply Kd.R_drew)); exact HO_7.out)); (case aS => exact (below_size (by repeat (first | (with_reducible first | exact HB.out | apply below_alloc | apply Go.Proofs.YtjjkagjdbjpikaaDoor.Ext.below_bytes | apply pw_below_drewN | apply below_drew1) | exact HB.out)))); (case aL => have := LMc47.out; omega); intro v257 w48 ho hb hg hat; rw [← Ny256.out] at ho; have n0_ := Aside0.mk (hb); have n1_ := Aside0.mk (ho); clear HB; clear HO_7; have HB := n0_; have HO258 := n1_; clear n0_ n1_; clear ho hb hg hat))
                                go_roundg k2
                                case measure => have := HK1.out; have := HK2.out; omega
                                case rel => exact ⟨(y256), (wrap64 (x53_1 + 1)), (by first | rfl | (simp; done) | (simp [*]; done)), H', ⟨by have := HK1.out; have := HK2.out; omega⟩, ⟨by (with_reducible repeat (first | apply Kd.R_alloc | apply Go.Proofs.YtjjkagjdbjpikaaDoor.Ext.R_bytes | apply Kd.R_drewN | apply Kd.R_drew)); exact HO258.out⟩, ⟨by repeat (first | (with_reducible first | exact HB.out | apply below_alloc | apply Go.Proofs.YtjjkagjdbjpikaaDoor.Ext.below_bytes | apply pw_below_drewN | apply below_drew1) | exact HB.out)⟩⟩
                              · rw [if_neg c47] at H
                                exact absurd H (by simp)
                      · rw [if_neg c30] at H
                        exact absurd H (by simp)
                    · rw [if_neg c29] at H
                      exact absurd H (by simp)
                  · rw [if_neg c28] at H
                    have c28b0 : decide (x53_1 < (l2.length : Int)) = false := decide_eq_false c28
                    clear c28
                    replace H := Option.bind_eq_some_iff.mp H
                    obtain ⟨t251, A490, H⟩ := H
                    replace H : (if 4 + t251.size ≤ 9223372036854775807 then (if 4 + t251.size + 2 ≤ 9223372036854775807 then (some (((⟨#[27, 80, 43, 113]⟩ : ByteArray) ++ t251) ++ (⟨#[27, 92]⟩ : ByteArray))) else (none)) else (none)) = some r := H
                    have A49 := Aside0.mk A490
                    clear A490
                    by_cases c50 : 4 + t251.size ≤ 9223372036854775807
                    · rw [if_pos c50] at H
                      have c50b0 := eq_true c50
                      have c50b1 : decide (4 + t251.size ≤ 9223372036854775807) = true := decide_eq_true c50
                      try have c50b2 : (9223372036854775807 < 4 + t251.size) = False := eq_false (Nat.not_lt.2 c50)
                      by_cases c51 : 4 + t251.size + 2 ≤ 9223372036854775807
                      · rw [if_pos c51] at H
                        have c51b0 := eq_true c51
                        have c51b1 : decide (4 + t251.size + 2 ≤ 9223372036854775807) = true := decide_eq_true c51
                        try have c51b2 : (9223372036854775807 < 4 + t251.size + 2) = False := eq_false (Nat.not_lt.2 c51)
                        obtain rfl := Option.some.inj H
                        obtain ⟨Ao52, co52, eo52⟩ := Kd.R_slice HO_7.out
                        subst eo52
                        go_wp2_with (first | ((with_reducible refine gate_callee (f := 44) rfl ?_); refine goesL_ (some 83) rfl rfl Tryd.func44 (by kernel_rfl) rfl #[.slice Ao52 x7_1.length co52, .string (⟨#[59]⟩ : ByteArray)] rfl (by (try simp only [List.map_toArray, List.map_cons, List.map_nil]); first | done | rfl | (simp only [List.length_drop, List.length_take]; rfl) | (simp [Act.eval, *]; done)) ?_; (with_reducible refine (spec_madeJoined.calls k1 _ _ x7_1 (⟨#[59]⟩ : ByteArray) t251 _ ?side1 ?side2 A49.out).mono ?_); (case side1 => repeat (first | exact (Kd.R_reads' HO_7.out).2.2 | (with_reducible refine Kd.C_alloc ?_ _) | (with_reducible refine Kd.C_drewN ?_ _) | (with_reducible refine Kd.C_drew ?_))); (case side2 => exact (Kd.R_reads' HO_7.out).2.1); rintro e w' ⟨rfl, ⟨nd, rfl⟩⟩; refine ⟨_, rfl, ?_⟩))
                        go_ret
                        exact ⟨by first | rfl | (simp [errW_none, errW_some] <;> rfl) | (simp [*, errW_none, errW_some] <;> rfl), by repeat (first | (with_reducible first | exact HB.out | apply below_alloc | apply Go.Proofs.YtjjkagjdbjpikaaDoor.Ext.below_bytes | apply pw_below_drewN | apply below_drew1) | exact HB.out)⟩
                      · rw [if_neg c51] at H
                        exact absurd H (by simp)
                    · rw [if_neg c50] at H
                      exact absurd H (by simp)
          · rw [if_neg c26] at H
            have c26b0 : (a0 == 5) = false := beq_eq_false_iff_ne.mpr c26
            have c26b1 : (a0 != 5) = true := bne_iff_ne.mpr c26
            by_cases c53 : a0 = 6
            · rw [if_pos c53] at H
              have c53b0 : (a0 == 6) = true := beq_iff_eq.mpr c53
              have c53b1 : (a0 != 6) = false := bne_eq_false_iff_eq.mpr c53
              clear c53
              replace H := Option.bind_eq_some_iff.mp H
              obtain ⟨t259, A540, H⟩ := H
              replace H : (if 6 + t259.size ≤ 9223372036854775807 then (if 6 + t259.size + 1 ≤ 9223372036854775807 then (some (((⟨#[27, 93, 49, 51, 51, 59]⟩ : ByteArray) ++ t259) ++ (⟨#[7]⟩ : ByteArray))) else (none)) else (none)) = some r := H
              have A54 := Aside0.mk A540
              clear A540
              by_cases c55 : 6 + t259.size ≤ 9223372036854775807
              · rw [if_pos c55] at H
                have c55b0 := eq_true c55
                have c55b1 : decide (6 + t259.size ≤ 9223372036854775807) = true := decide_eq_true c55
                try have c55b2 : (9223372036854775807 < 6 + t259.size) = False := eq_false (Nat.not_lt.2 c55)
                by_cases c56 : 6 + t259.size + 1 ≤ 9223372036854775807
                · rw [if_pos c56] at H
                  have c56b0 := eq_true c56
                  have c56b1 : decide (6 + t259.size + 1 ≤ 9223372036854775807) = true := decide_eq_true c56
                  try have c56b2 : (9223372036854775807 < 6 + t259.size + 1) = False := eq_false (Nat.not_lt.2 c56)
                  obtain rfl := Option.some.inj H
                  go_enter Tryd.func16, Tryd.ntmps16
                  go_wp2_with (first | ((with_reducible refine gate_callee (f := 44) rfl ?_); refine goesL_ (some 89) rfl rfl Tryd.func44 (by kernel_rfl) rfl #[.slice A2 l2.length c2, .string (⟨#[59]⟩ : ByteArray)] rfl (by (try simp only [List.map_toArray, List.map_cons, List.map_nil]); first | done | rfl | (simp only [List.length_drop, List.length_take]; rfl) | (simp [Act.eval, *]; done)) ?_; (with_reducible refine (spec_madeJoined.calls k _ _ l2 (⟨#[59]⟩ : ByteArray) t259 _ ?side1 ?side2 A54.out).mono ?_); (case side1 => repeat (first | exact HR2.out | (with_reducible refine Kd.C_alloc ?_ _) | (with_reducible refine Kd.C_drewN ?_ _) | (with_reducible refine Kd.C_drew ?_))); (case side2 => exact HC2.out); rintro e w' ⟨rfl, ⟨nd, rfl⟩⟩; refine ⟨_, rfl, ?_⟩))
                  go_ret
                  exact ⟨by first | rfl | (simp [errW_none, errW_some] <;> rfl) | (simp [*, errW_none, errW_some] <;> rfl), by repeat (first | (with_reducible first | exact HB.out | apply below_alloc | apply Go.Proofs.YtjjkagjdbjpikaaDoor.Ext.below_bytes | apply pw_below_drewN | apply below_drew1) | exact HB.out)⟩
                · rw [if_neg c56] at H
                  exact absurd H (by simp)
              · rw [if_neg c55] at H
                exact absurd H (by simp)
            · rw [if_neg c53] at H
              have c53b0 : (a0 == 6) = false := beq_eq_false_iff_ne.mpr c53
              have c53b1 : (a0 != 6) = true := bne_iff_ne.mpr c53
              obtain ⟨y260, hy260⟩ : ∃ y_ : List ByteArray, y_ = (([(⟨#[65]⟩ : ByteArray), (⟨#[66]⟩ : ByteArray), (⟨#[67]⟩ : ByteArray), (⟨#[68]⟩ : ByteArray)] : List ByteArray)) := ⟨_, rfl⟩
              replace H : (if 0 ≤ (wrap64 (a0 - 7)) then (if (wrap64 (a0 - 7)) < (y260.length : Int) then ((some (([rdOf ByteArray.empty y260 (wrap64 (a0 - 7))] : List ByteArray) : List ByteArray)).bind fun y264 => (if y264.length + l2.length < 8796093022208 then ((spec_madeJoined.f k (y264 ++ l2) (⟨#[59]⟩ : ByteArray)).bind fun t270 => (if 6 + t270.size ≤ 9223372036854775807 then (if 6 + t270.size + 1 ≤ 9223372036854775807 then (some (((⟨#[27, 93, 49, 51, 51, 59]⟩ : ByteArray) ++ t270) ++ (⟨#[7]⟩ : ByteArray))) else (none)) else (none))) else (none))) else (none)) else (none)) = some r := by first | (rw [hy260]; with_reducible exact H) | (have H2_ := (Option.bind_some _ _).symm.trans H; rw [hy260]; with_reducible exact H2_) | (have H2_ := (Option.bind_some _ _).symm.trans H; with_reducible exact H2_) | with_reducible exact H | (rw [hy260]; exact H) | exact H
              have Ny260 := Aside0.mk hy260
              clear hy260
              obtain ⟨ji57, hji57⟩ : ∃ j_ : Int, (wrap64 (a0 - 7)) = j_ := ⟨_, rfl⟩
              replace H : (if 0 ≤ (ji57) then (if (ji57) < (y260.length : Int) then ((some (([rdOf ByteArray.empty y260 (ji57)] : List ByteArray) : List ByteArray)).bind fun y264 => (if y264.length + l2.length < 8796093022208 then ((spec_madeJoined.f k (y264 ++ l2) (⟨#[59]⟩ : ByteArray)).bind fun t270 => (if 6 + t270.size ≤ 9223372036854775807 then (if 6 + t270.size + 1 ≤ 9223372036854775807 then (some (((⟨#[27, 93, 49, 51, 51, 59]⟩ : ByteArray) ++ t270) ++ (⟨#[7]⟩ : ByteArray))) else (none)) else (none))) else (none))) else (none)) else (none)) = some r := by first | (rw [hji57] at H; exact H) | (simp only [hji57] at H ⊢; exact H)
              have hji57w : (IntKind.i64.wrap (a0 - 7)) = ji57 := (i64_w _).trans hji57
              by_cases c58 : 0 ≤ (ji57)
              · rw [if_pos c58] at H
                have c58b0 : decide (0 ≤ (ji57)) = true := decide_eq_true c58
                clear c58
                by_cases c59 : (ji57) < (y260.length : Int)
                · rw [if_pos c59] at H
                  have c59b0 : decide ((ji57) < (y260.length : Int)) = true := decide_eq_true c59
                  clear c59
                  obtain ⟨y264, hy264⟩ : ∃ y_ : List ByteArray, y_ = (([rdOf ByteArray.empty y260 (ji57)] : List ByteArray)) := ⟨_, rfl⟩
                  replace H : (if y264.length + l2.length < 8796093022208 then ((spec_madeJoined.f k (y264 ++ l2) (⟨#[59]⟩ : ByteArray)).bind fun t270 => (if 6 + t270.size ≤ 9223372036854775807 then (if 6 + t270.size + 1 ≤ 9223372036854775807 then (some (((⟨#[27, 93, 49, 51, 51, 59]⟩ : ByteArray) ++ t270) ++ (⟨#[7]⟩ : ByteArray))) else (none)) else (none))) else (none)) = some r := by first | (rw [hy264]; with_reducible exact H) | (have H2_ := (Option.bind_some _ _).symm.trans H; rw [hy264]; with_reducible exact H2_) | (have H2_ := (Option.bind_some _ _).symm.trans H; with_reducible exact H2_) | with_reducible exact H | (rw [hy264]; exact H) | exact H
                  have Ny264 := Aside0.mk hy264
                  clear hy264
                  by_cases c60 : y264.length + l2.length < 8796093022208
                  · rw [if_pos c60] at H
                    have LMc60 := Aside0.mk c60
                    clear c60
                    obtain ⟨y267, hy267⟩ : ∃ y_ : List ByteArray, y_ = (y264 ++ l2) := ⟨_, rfl⟩
                    replace H : ((spec_madeJoined.f k y267 (⟨#[59]⟩ : ByteArray)).bind fun t270 => (if 6 + t270.size ≤ 9223372036854775807 then (if 6 + t270.size + 1 ≤ 9223372036854775807 then (some (((⟨#[27, 93, 49, 51, 51, 59]⟩ : ByteArray) ++ t270) ++ (⟨#[7]⟩ : ByteArray))) else (none)) else (none))) = some r := by first | (rw [hy267]; with_reducible exact H) | (have H2_ := (Option.bind_some _ _).symm.trans H; rw [hy267]; with_reducible exact H2_) | (have H2_ := (Option.bind_some _ _).symm.trans H; with_reducible exact H2_) | with_reducible exact H | (rw [hy267]; exact H) | exact H
                    have Ny267 := Aside0.mk hy267
                    clear hy267
                    replace H := Option.bind_eq_some_iff.mp H
                    obtain ⟨t270, A610, H⟩ := H
                    replace H : (if 6 + t270.size ≤ 9223372036854775807 then (if 6 + t270.size + 1 ≤ 9223372036854775807 then (some (((⟨#[27, 93, 49, 51, 51, 59]⟩ : ByteArray) ++ t270) ++ (⟨#[7]⟩ : ByteArray))) else (none)) else (none)) = some r := H
                    have A61 := Aside0.mk A610
                    clear A610
                    by_cases c62 : 6 + t270.size ≤ 9223372036854775807
                    · rw [if_pos c62] at H
                      have c62b0 := eq_true c62
                      have c62b1 : decide (6 + t270.size ≤ 9223372036854775807) = true := decide_eq_true c62
                      try have c62b2 : (9223372036854775807 < 6 + t270.size) = False := eq_false (Nat.not_lt.2 c62)
                      by_cases c63 : 6 + t270.size + 1 ≤ 9223372036854775807
                      · rw [if_pos c63] at H
                        have c63b0 := eq_true c63
                        have c63b1 : decide (6 + t270.size + 1 ≤ 9223372036854775807) = true := decide_eq_true c63
                        try have c63b2 : (9223372036854775807 < 6 + t270.size + 1) = False := eq_false (Nat.not_lt.2 c63)
                        obtain rfl := Option.some.inj H
                        go_enter Tryd.func16, Tryd.ntmps16
                        go_wp2_with (first | ((with_reducible refine gate_dst (N := 92) rfl ?_); refine Kd.R_lit Kd.string _ 9 ?hg (N := 92) ?hd (xs := ([(⟨#[65]⟩ : ByteArray), (⟨#[66]⟩ : ByteArray), (⟨#[67]⟩ : ByteArray), (⟨#[68]⟩ : ByteArray)] : List ByteArray)) (inner := [.string (⟨#[65]⟩ : ByteArray), .string (⟨#[66]⟩ : ByteArray), .string (⟨#[67]⟩ : ByteArray), .string (⟨#[68]⟩ : ByteArray)]) (ok := fun _ => True) (okp := fun _ => True) ?hr ?hp (fun _ hk => hk) trivial (Below.refl _ _) (Nat.le_refl _) (by simp) ?_; (case hd => rfl); (case hg => rfl); (case hr => first | (go_simp; done) | (go_simp; rfl)); (case hp => exact (Reps.one (show Kd.M Kd.string _ _ _ (⟨#[65]⟩ : ByteArray) [.string (⟨#[65]⟩ : ByteArray)] from rfl) (Reps.one (show Kd.M Kd.string _ _ _ (⟨#[66]⟩ : ByteArray) [.string (⟨#[66]⟩ : ByteArray)] from rfl) (Reps.one (show Kd.M Kd.string _ _ _ (⟨#[67]⟩ : ByteArray) [.string (⟨#[67]⟩ : ByteArray)] from rfl) (Reps.one (show Kd.M Kd.string _ _ _ (⟨#[68]⟩ : ByteArray) [.string (⟨#[68]⟩ : ByteArray)] from rfl) (Reps.none _ _)))))); intro v261 w64 ho65 hb hg_ hnew_; clear hg_ hnew_; (first | rw [← Ny260.out] at ho65 | (simp only [Int.reduceToNat] at ho65; rw [← Ny260.out] at ho65)); have n0_ := Aside0.mk (Kd.R_lower ho65 (below_size (by repeat (first | (with_reducible first | exact HB.out | apply below_alloc | apply Go.Proofs.YtjjkagjdbjpikaaDoor.Ext.below_bytes | apply pw_below_drewN | apply below_drew1) | exact HB.out)))); have n1_ := Aside0.mk (below_step (by repeat (first | (with_reducible first | exact HB.out | apply below_alloc | apply Go.Proofs.YtjjkagjdbjpikaaDoor.Ext.below_bytes | apply pw_below_drewN | apply below_drew1) | exact HB.out)) hb); clear HB; have HO262 := n0_; have HB := n1_; clear n0_ n1_; clear hb ho65; obtain ⟨Ao66, co66, eo66⟩ := Kd.R_slice HO262.out; subst eo66; have p263 : 0 ≤ ((ji57) : Int) := of_decide_eq_true (by first | (with_reducible assumption) | assumption); have q263 : (ji57) < (y260.length : Int) := of_decide_eq_true (by first | (with_reducible assumption) | assumption); obtain ⟨ad263, e263, hx263_0⟩ := Kd.at_string (Kd.R_reads' HO262.out).2.2 (ji57) p263 q263; cases e263; replace p263 := eq_true p263; replace q263 := eq_true q263) | ((with_reducible refine gate_dst (N := 97) rfl ?_); refine Kd.R_lit Kd.string _ 9 ?hg (N := 97) ?hd (xs := ([rdOf ByteArray.empty y260 (ji57)] : List ByteArray)) (inner := [.string (rdOf ByteArray.empty y260 (ji57))]) (ok := fun _ => True) (okp := fun _ => True) ?hr ?hp (fun _ hk => hk) trivial (Below.refl _ _) (Nat.le_refl _) (by simp) ?_; (case hd => rfl); (case hg => rfl); (case hr => first | (go_simp; done) | (go_simp; rfl)); (case hp => exact (Reps.one (show Kd.M Kd.string _ _ _ (rdOf ByteArray.empty y260 (ji57)) [.string (rdOf ByteArray.empty y260 (ji57))] from rfl) (Reps.none _ _))); intro v265 w67 ho68 hb hg_ hnew_; clear hg_ hnew_; (first | rw [← Ny264.out] at ho68 | (simp only [Int.reduceToNat] at ho68; rw [← Ny264.out] at ho68)); have n0_ := Aside0.mk (Kd.R_elder' (by (with_reducible repeat (first | apply Kd.R_alloc | apply Go.Proofs.YtjjkagjdbjpikaaDoor.Ext.R_bytes | apply Kd.R_drewN | apply Kd.R_drew)); exact HO262.out) (Kd.R_base ho68) hb); have n1_ := Aside0.mk (Kd.R_lower (Kd.R_new' ho68 (Kd.R_lt (by (with_reducible repeat (first | apply Kd.R_alloc | apply Go.Proofs.YtjjkagjdbjpikaaDoor.Ext.R_bytes | apply Kd.R_drewN | apply Kd.R_drew)); exact HO262.out))) (below_size (by repeat (first | (with_reducible first | exact HB.out | apply below_alloc | apply Go.Proofs.YtjjkagjdbjpikaaDoor.Ext.below_bytes | apply pw_below_drewN | apply below_drew1) | exact HB.out)))); have n2_ := Aside0.mk (below_step (by repeat (first | (with_reducible first | exact HB.out | apply below_alloc | apply Go.Proofs.YtjjkagjdbjpikaaDoor.Ext.below_bytes | apply pw_below_drewN | apply below_drew1) | exact HB.out)) hb); clear HO262; clear HB; have HO262 := n0_; have HO266 := n1_; have HB := n2_; clear n0_ n1_ n2_; clear hb ho68) | ((with_reducible refine gate_builtin (b := .append) (xs := #[.tmp 97, .tmp 98]) rfl ?_); at_builtin; refine Kd.R_append_rows Kd.string (w0 := w) w.heap.size rfl (.tmp 97) (.tmp 98) 22 9 (.string ⟨#[]⟩) 16 rfl Tryd.underlying22 info9 rfl (by decide) (by omega) v265 y264 l2 _ _ _ (fun k_ => some k_ ≠ (.slice (some ad263) y260.length co66 : Value).ownBlock) (fun _ => False) rfl rfl ?aO ?aR (fun _ _ h => h) (fun _ h => h.elim) ?aF ?aB ?aS ?aL ?_; (case aR => repeat (first | exact (Kd.C_below HR2.out HB.out) | (with_reducible refine Kd.C_alloc ?_ _) | (with_reducible refine Kd.C_drewN ?_ _) | (with_reducible refine Kd.C_drew ?_))); (case aB => exact (by repeat (first | (with_reducible first | exact HB.out | apply below_alloc | apply Go.Proofs.YtjjkagjdbjpikaaDoor.Ext.below_bytes | apply pw_below_drewN | apply below_drew1) | exact HB.out))); (case aF => exact (fun k_ hk => Kd.fresh' (Kd.R_lt (by (with_reducible repeat (first | apply Kd.R_alloc | apply Go.Proofs.YtjjkagjdbjpikaaDoor.Ext.R_bytes | apply Kd.R_drewN | apply Kd.R_drew)); exact HO262.out)) k_ hk)); (case aO => exact (by (with_reducible repeat (first | apply Kd.R_alloc | apply Go.Proofs.YtjjkagjdbjpikaaDoor.Ext.R_bytes | apply Kd.R_drewN | apply Kd.R_drew)); exact Kd.R_mono HO266.out (fun _ hk => hk.2))); (case aS => exact (below_size (by repeat (first | (with_reducible first | exact HB.out | apply below_alloc | apply Go.Proofs.YtjjkagjdbjpikaaDoor.Ext.below_bytes | apply pw_below_drewN | apply below_drew1) | exact HB.out)))); (case aL => have := LMc60.out; omega); intro v268 w69 ho hb hg hat; rw [← Ny267.out] at ho; have n0_ := Aside0.mk (Kd.R_after (ok := (fun _ => True)) (by (with_reducible repeat (first | apply Kd.R_alloc | apply Go.Proofs.YtjjkagjdbjpikaaDoor.Ext.R_bytes | apply Kd.R_drewN | apply Kd.R_drew)); exact HO262.out) hg hat); have n1_ := Aside0.mk (hb); have n2_ := Aside0.mk (ho); clear HO262; clear HB; clear HO266; have HO262 := n0_; have HB := n1_; have HO269 := n2_; clear n0_ n1_ n2_; clear ho hb hg hat; obtain ⟨Ao70, co70, eo70⟩ := Kd.R_slice HO269.out; subst eo70) | ((with_reducible refine gate_callee (f := 44) rfl ?_); refine goesL_ (some 100) rfl rfl Tryd.func44 (by kernel_rfl) rfl #[.slice Ao70 y267.length co70, .string (⟨#[59]⟩ : ByteArray)] rfl (by (try simp only [List.map_toArray, List.map_cons, List.map_nil]); first | done | rfl | (simp only [List.length_drop, List.length_take]; rfl) | (simp [Act.eval, *]; done)) ?_; (with_reducible refine (spec_madeJoined.calls k _ _ y267 (⟨#[59]⟩ : ByteArray) t270 _ ?side1 ?side2 A61.out).mono ?_); (case side1 => repeat (first | exact (Kd.R_reads' HO269.out).2.2 | (with_reducible refine Kd.C_alloc ?_ _) | (with_reducible refine Kd.C_drewN ?_ _) | (with_reducible refine Kd.C_drew ?_))); (case side2 => exact (Kd.R_reads' HO269.out).2.1); rintro e w' ⟨rfl, ⟨nd, rfl⟩⟩; refine ⟨_, rfl, ?_⟩))
                        go_ret
                        exact ⟨by first | rfl | (simp [errW_none, errW_some] <;> rfl) | (simp only [← hji57]; first | rfl | (simp [errW_none, errW_some] <;> rfl)) | (simp [*, errW_none, errW_some] <;> rfl), by repeat (first | (with_reducible first | exact HB.out | apply below_alloc | apply Go.Proofs.YtjjkagjdbjpikaaDoor.Ext.below_bytes | apply pw_below_drewN | apply below_drew1) | exact HB.out)⟩
                      · rw [if_neg c63] at H
                        exact absurd H (by simp)
                    · rw [if_neg c62] at H
                      exact absurd H (by simp)
                  · rw [if_neg c60] at H
                    exact absurd H (by simp)
                · rw [if_neg c59] at H
                  exact absurd H (by simp)
              · rw [if_neg c58] at H
                exact absurd H (by simp)

end Go.Proofs.YtjjkagjdbjpikaaDoor.PX
