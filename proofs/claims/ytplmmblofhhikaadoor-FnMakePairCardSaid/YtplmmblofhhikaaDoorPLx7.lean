-- Written by wip/pp.py, a program of this session, out of the translation. Not trusted: Lean checks it.
import Derived.Test.YtplmmblofhhikaaDoorPLx0
import Derived.Test.YtplmmblofhhikaaDoorPLx4
import Derived.Test.YtplmmblofhhikaaDoorPLx6
namespace Go.Proofs.YtplmmblofhhikaaDoor.PL
open Go.RowKit Go.Proofs.YtplmmblofhhikaaDoor.Or Go.Proofs.YtplmmblofhhikaaDoorW.PrintWords Go.Proofs.YtplmmblofhhikaaDoorW.PrintLast Go.Proofs.YtplmmblofhhikaaDoorW.PrintMore
attribute [local go_sem] max2_int min2_int max_two min_two max_three min_three max_four min_four   -- for this text's walks alone
attribute [local go_sem] Ext.wrap64_mod256 Ext.wrap64_mod32 Ext.i64_mod256 Ext.i64_mod32 Ext.i64_u8 Ext.w64_u8 Ext.i64_u32 Ext.w64_u32 
attribute [-simp] List.drop_one List.length_drop   -- a list that is cut keeps its form
set_option linter.unusedVariables false
set_option linter.unusedSimpArgs false

/-! ### spec_MadePair: function 21 -/
mutual
def spec_MadePair.j0 : Nat → Int → Int → Int → Int → Bool → Option (ByteArray)
  | 0, _, _, _, _, _ => none
  | k + 1, x0, x1, x2, x7, x8 => if x8 = true then (if x0 = 0 then (if x1 ≤ 1 then (spec_MadePair.j1 k x0 x1 x2 (decide (x2 ≤ 1))) else (spec_MadePair.j1 k x0 x1 x2 false)) else (spec_MadePair.j1 k x0 x1 x2 false)) else (if x7 = 2 then (spec_MadePair.j2 k x0 x1 x2 x7 (x7 == 2)) else (spec_MadePair.j2 k x0 x1 x2 x7 (x7 == 3)))
def spec_MadePair.j1 : Nat → Int → Int → Int → Bool → Option (ByteArray)
  | 0, _, _, _, _ => none
  | k + 1, x0, x1, x2, x20 => if x20 = true then (some (⟨#[27, 91, 72]⟩ : ByteArray)) else ((spec_madeAbove.f k x2 0).bind fun t230 => (if 2 + t230.size ≤ 9223372036854775807 then (if 2 + t230.size + 1 ≤ 9223372036854775807 then ((spec_madeAbove.f k x1 0).bind fun t231 => (if 2 + t230.size + 1 + t231.size ≤ 9223372036854775807 then ((some (([(⟨#[72]⟩ : ByteArray), (⟨#[102]⟩ : ByteArray)] : List ByteArray) : List ByteArray)).bind fun y232 => (if 0 ≤ x0 then (if x0 < (y232.length : Int) then (if 2 + t230.size + 1 + t231.size + (rdOf ByteArray.empty y232 x0).size ≤ 9223372036854775807 then (some (((((⟨#[27, 91]⟩ : ByteArray) ++ t230) ++ (⟨#[59]⟩ : ByteArray)) ++ t231) ++ (rdOf ByteArray.empty y232 x0))) else (none)) else (none)) else (none))) else (none))) else (none)) else (none)))
def spec_MadePair.j2 : Nat → Int → Int → Int → Int → Bool → Option (ByteArray)
  | 0, _, _, _, _, _ => none
  | k + 1, x0, x1, x2, x7, x33 => if x33 = true then ((spec_madeAbove.f k x1 0).bind fun t236 => (if 2 + t236.size ≤ 9223372036854775807 then (if 2 + t236.size + 1 ≤ 9223372036854775807 then ((spec_madeAbove.f k x2 0).bind fun t237 => (if 2 + t236.size + 1 + t237.size ≤ 9223372036854775807 then ((some (([(⟨#[114]⟩ : ByteArray), (⟨#[115]⟩ : ByteArray)] : List ByteArray) : List ByteArray)).bind fun y238 => (if 0 ≤ (wrap64 (x0 - 2)) then (if (wrap64 (x0 - 2)) < (y238.length : Int) then (if 2 + t236.size + 1 + t237.size + (rdOf ByteArray.empty y238 (wrap64 (x0 - 2))).size ≤ 9223372036854775807 then (some (((((⟨#[27, 91]⟩ : ByteArray) ++ t236) ++ (⟨#[59]⟩ : ByteArray)) ++ t237) ++ (rdOf ByteArray.empty y238 (wrap64 (x0 - 2))))) else (none)) else (none)) else (none))) else (none))) else (none)) else (none))) else (if x7 = 4 then ((spec_Digits.f k (mx x1 1)).bind fun t242 => (if 2 + t242.size ≤ 9223372036854775807 then (if 2 + t242.size + 1 ≤ 9223372036854775807 then ((spec_Digits.f k (mx x2 1)).bind fun t243 => (if 2 + t242.size + 1 + t243.size ≤ 9223372036854775807 then (if 2 + t242.size + 1 + t243.size + 1 ≤ 9223372036854775807 then (some (((((⟨#[27, 91]⟩ : ByteArray) ++ t242) ++ (⟨#[59]⟩ : ByteArray)) ++ t243) ++ (⟨#[82]⟩ : ByteArray))) else (none)) else (none))) else (none)) else (none))) else (if x7 = 5 then ((spec_Digits.f k x1).bind fun t244 => (if 3 + t244.size ≤ 9223372036854775807 then (if 3 + t244.size + 1 ≤ 9223372036854775807 then ((spec_Digits.f k x2).bind fun t245 => (if 3 + t244.size + 1 + t245.size ≤ 9223372036854775807 then (if 3 + t244.size + 1 + t245.size + 1 ≤ 9223372036854775807 then (some (((((⟨#[27, 91, 61]⟩ : ByteArray) ++ t244) ++ (⟨#[59]⟩ : ByteArray)) ++ t245) ++ (⟨#[117]⟩ : ByteArray))) else (none)) else (none))) else (none)) else (none))) else ((spec_MadeList.f k 6 (([x1, x2] : List Int))).bind fun t249 => (some t249))))
end
def spec_MadePair.f (k : Nat) (a0 : Int) (a1 : Int) (a2 : Int) : Option (ByteArray) := if a0 = 0 then (spec_MadePair.j0 k a0 a1 a2 a0 (a0 == 0)) else (spec_MadePair.j0 k a0 a1 a2 a0 (a0 == 1))
theorem spec_MadePair.mono_l : ∀ k, (∀ y0 y1 y2 y3 y4, LeO (spec_MadePair.j0 k y0 y1 y2 y3 y4) (spec_MadePair.j0 (k + 1) y0 y1 y2 y3 y4)) ∧ (∀ y0 y1 y2 y3, LeO (spec_MadePair.j1 k y0 y1 y2 y3) (spec_MadePair.j1 (k + 1) y0 y1 y2 y3)) ∧ (∀ y0 y1 y2 y3 y4, LeO (spec_MadePair.j2 k y0 y1 y2 y3 y4) (spec_MadePair.j2 (k + 1) y0 y1 y2 y3 y4))
  | 0 => ⟨fun _ _ _ _ _ r h => by simp [spec_MadePair.j0] at h, fun _ _ _ _ r h => by simp [spec_MadePair.j1] at h, fun _ _ _ _ _ r h => by simp [spec_MadePair.j2] at h⟩
  | k + 1 => by
    obtain ⟨ih0, ih1, ih2⟩ := spec_MadePair.mono_l k
    refine ⟨?_, ?_, ?_⟩
    · intro y0 y1 y2 y3 y4
      unfold spec_MadePair.j0
      repeat' first
      | (with_reducible exact ih0 _ _ _ _ _)
      | (with_reducible exact ih1 _ _ _ _)
      | (with_reducible exact ih2 _ _ _ _ _)
      | (with_reducible exact spec_Digits.mono _ _)
      | (with_reducible exact spec_MadeList.mono _ _ _)
      | (with_reducible exact spec_madeAbove.mono _ _ _)
      | (with_reducible exact LeO.refl _)
      | (with_reducible exact LeO.none _)
      | (with_reducible refine LeO.ite ?_ ?_)
      | (with_reducible refine LeO.bind ?_ (fun _ => ?_))
      | exact ih0 _ _ _ _ _
      | exact ih1 _ _ _ _
      | exact ih2 _ _ _ _ _
      | exact spec_Digits.mono _ _
      | exact spec_MadeList.mono _ _ _
      | exact spec_madeAbove.mono _ _ _
      | exact LeO.none _
      | refine LeO.ite ?_ ?_
      | refine LeO.bind ?_ (fun _ => ?_)
    · intro y0 y1 y2 y3
      unfold spec_MadePair.j1
      repeat' first
      | (with_reducible exact ih0 _ _ _ _ _)
      | (with_reducible exact ih1 _ _ _ _)
      | (with_reducible exact ih2 _ _ _ _ _)
      | (with_reducible exact spec_Digits.mono _ _)
      | (with_reducible exact spec_MadeList.mono _ _ _)
      | (with_reducible exact spec_madeAbove.mono _ _ _)
      | (with_reducible exact LeO.refl _)
      | (with_reducible exact LeO.none _)
      | (with_reducible refine LeO.ite ?_ ?_)
      | (with_reducible refine LeO.bind ?_ (fun _ => ?_))
      | exact ih0 _ _ _ _ _
      | exact ih1 _ _ _ _
      | exact ih2 _ _ _ _ _
      | exact spec_Digits.mono _ _
      | exact spec_MadeList.mono _ _ _
      | exact spec_madeAbove.mono _ _ _
      | exact LeO.none _
      | refine LeO.ite ?_ ?_
      | refine LeO.bind ?_ (fun _ => ?_)
    · intro y0 y1 y2 y3 y4
      unfold spec_MadePair.j2
      repeat' first
      | (with_reducible exact ih0 _ _ _ _ _)
      | (with_reducible exact ih1 _ _ _ _)
      | (with_reducible exact ih2 _ _ _ _ _)
      | (with_reducible exact spec_Digits.mono _ _)
      | (with_reducible exact spec_MadeList.mono _ _ _)
      | (with_reducible exact spec_madeAbove.mono _ _ _)
      | (with_reducible exact LeO.refl _)
      | (with_reducible exact LeO.none _)
      | (with_reducible refine LeO.ite ?_ ?_)
      | (with_reducible refine LeO.bind ?_ (fun _ => ?_))
      | exact ih0 _ _ _ _ _
      | exact ih1 _ _ _ _
      | exact ih2 _ _ _ _ _
      | exact spec_Digits.mono _ _
      | exact spec_MadeList.mono _ _ _
      | exact spec_madeAbove.mono _ _ _
      | exact LeO.none _
      | refine LeO.ite ?_ ?_
      | refine LeO.bind ?_ (fun _ => ?_)
theorem spec_MadePair.mono : ∀ a0 a1 a2 k, LeO (spec_MadePair.f k a0 a1 a2) (spec_MadePair.f (k + 1) a0 a1 a2) := by
  intro a0 a1 a2 k
  obtain ⟨ih0, ih1, ih2⟩ := spec_MadePair.mono_l k
  unfold spec_MadePair.f
  repeat' first
      | (with_reducible exact ih0 _ _ _ _ _)
      | (with_reducible exact ih1 _ _ _ _)
      | (with_reducible exact ih2 _ _ _ _ _)
      | (with_reducible exact spec_Digits.mono _ _)
      | (with_reducible exact spec_MadeList.mono _ _ _)
      | (with_reducible exact spec_madeAbove.mono _ _ _)
      | (with_reducible exact LeO.refl _)
      | (with_reducible exact LeO.none _)
      | (with_reducible refine LeO.ite ?_ ?_)
      | (with_reducible refine LeO.bind ?_ (fun _ => ?_))
      | exact ih0 _ _ _ _ _
      | exact ih1 _ _ _ _
      | exact ih2 _ _ _ _ _
      | exact spec_Digits.mono _ _
      | exact spec_MadeList.mono _ _ _
      | exact spec_madeAbove.mono _ _ _
      | exact LeO.none _
      | refine LeO.ite ?_ ?_
      | refine LeO.bind ?_ (fun _ => ?_)
def spec_MadePair.T6 : Bool × List (List Nat × List Nat) := (true, [([], []), ([0], [0]), ([1], [1]), ([2], [2]), ([], []), ([4, 1], [4]), ([3, 5], [3, 5]), ([], []), ([], []), ([7, 8], [7, 8]), ([9], [9]), ([6, 10], [6, 10]), ([11, 5, 0, 1, 2, 3, 4, 5, 6, 7, 8, 9, 10, 11], [11])])
def spec_MadePair.B6 : List Nat := [0, 1, 3, 7, 0, 19, 63, 0, 0, 384, 896, 2047, 4095]
theorem spec_MadePair.tab6 : rtab .any (opsOf Tryd.f21 6) = spec_MadePair.T6 := by kernel_rfl
theorem spec_MadePair.bits6 : waitsOk spec_MadePair.T6.2 spec_MadePair.B6 = true := by kernel_rfl
def spec_MadePair.T9 : Bool × List (List Nat × List Nat) := (true, [([], []), ([0], [0]), ([1], [1]), ([2], [2]), ([], []), ([4, 1], [4]), ([3, 5], [3, 5]), ([], []), ([], []), ([8], [8]), ([7, 9], [7, 9]), ([10], [10]), ([6, 11], [6, 11]), ([12, 5, 0, 1, 2, 3, 4, 5, 6, 7, 8, 9, 10, 11, 12], [12])])
def spec_MadePair.B9 : List Nat := [0, 1, 3, 7, 0, 19, 63, 0, 0, 256, 896, 1920, 4095, 8191]
theorem spec_MadePair.tab9 : rtab .any (opsOf Tryd.f21 9) = spec_MadePair.T9 := by kernel_rfl
theorem spec_MadePair.bits9 : waitsOk spec_MadePair.T9.2 spec_MadePair.B9 = true := by kernel_rfl
set_option maxHeartbeats 8000000 in
set_option maxRecDepth 100000 in
theorem spec_MadePair.calls (k : Nat) (a0 : Int) (a1 : Int) (a2 : Int) (r : ByteArray) (w : World) (h : spec_MadePair.f k a0 a1 a2 = some r) :
    Calls Tryd.prog 21 #[.int .i64 a0, .int .i64 a1, .int .i64 a2] w fun e w' => e = .returned (.string r) ∧ Below w.heap.size w w' := by
  have HB := Aside0.mk (Below.refl w.heap.size w)
  have H : (if a0 = 0 then (spec_MadePair.j0 k a0 a1 a2 a0 (a0 == 0)) else (spec_MadePair.j0 k a0 a1 a2 a0 (a0 == 1))) = some r := h
  clear h
  have HC4 := Aside0.mk H
  clear H
  go_enter Tryd.func21, Tryd.ntmps21
  go_upto_if 8 with (fail)
  go_cut [8] (fun v8 wc => ∃ (kq : Nat) (x8_3 : Bool), v8 = .bool x8_3 ∧ Aside0 (spec_MadePair.j0 kq a0 a1 a2 a0 x8_3 = some r) ∧ Aside0 (kq ≤ k) ∧ Aside0 (Below w.heap.size w wc))
  case first =>
    have H := HC4.out
    clear HC4
    by_cases c5 : a0 = 0
    · rw [if_pos c5] at H
      have c5b0 : (a0 == 0) = true := beq_iff_eq.mpr c5
      have c5b1 : (a0 != 0) = false := bne_eq_false_iff_eq.mpr c5
      clear c5
      (first | rw [c5b0] | (simp only [i64_w, i32_w]; rw [c5b0]) | skip)
      have H' := Aside0.mk H
      clear H
      go_wp2
      go_meet
      case rel => exact ⟨_, ((a0 == 0)), (by first | rfl | (simp; done) | (simp [*]; done)), H', ⟨by first | omega | exact Nat.le_refl _⟩, ⟨by repeat (first | (with_reducible first | exact HB.out | apply below_alloc | apply Ext.below_bytes | apply pw_below_drewN | apply below_drew1) | exact HB.out)⟩⟩
    · rw [if_neg c5] at H
      have c5b0 : (a0 == 0) = false := beq_eq_false_iff_ne.mpr c5
      have c5b1 : (a0 != 0) = true := bne_iff_ne.mpr c5
      (first | rw [c5b0] | (simp only [i64_w, i32_w]; rw [c5b0]) | skip)
      have H' := Aside0.mk H
      clear H
      go_wp2
      go_meet
      case rel => exact ⟨_, ((a0 == 1)), (by first | rfl | (simp; done) | (simp [*]; done)), H', ⟨by first | omega | exact Nat.le_refl _⟩, ⟨by repeat (first | (with_reducible first | exact HB.out | apply below_alloc | apply Ext.below_bytes | apply pw_below_drewN | apply below_drew1) | exact HB.out)⟩⟩
  case rest =>
    clear HC4
    try clear c2
    try clear p2
    try clear c5
    try clear c5b0
    try clear c5b1
    obtain ⟨kq, x8_3, rfl, HA, HJ3, HB⟩ := hcut
    cases kq with
    | zero => exact absurd HA.out (by simp [spec_MadePair.j0])
    | succ kj3 =>
      have H := HA.out
      clear HA
      simp only [spec_MadePair.j0] at H
      by_cases c6 : x8_3 = true
      · subst c6
        have H1 : (if a0 = 0 then (if a1 ≤ 1 then (spec_MadePair.j1 kj3 a0 a1 a2 (decide (a2 ≤ 1))) else (spec_MadePair.j1 kj3 a0 a1 a2 false)) else (spec_MadePair.j1 kj3 a0 a1 a2 false)) = some r := by rw [if_pos rfl] at H; exact H
        clear H
        have H := H1
        clear H1
        have HC7 := Aside0.mk H
        clear H
        go_upto_region 4 with (fail)
        go_cut [20] (fun v20 wc => ∃ (kq : Nat) (x20_6 : Bool), v20 = .bool x20_6 ∧ Aside0 (spec_MadePair.j1 kq a0 a1 a2 x20_6 = some r) ∧ Aside0 (kq ≤ kj3) ∧ Aside0 (Below w.heap.size w wc))
        case first =>
          have H := HC7.out
          clear HC7
          by_cases c8 : a0 = 0
          · rw [if_pos c8] at H
            have c8b0 : (a0 == 0) = true := beq_iff_eq.mpr c8
            have c8b1 : (a0 != 0) = false := bne_eq_false_iff_eq.mpr c8
            clear c8
            (first | rw [c8b0] | (simp only [i64_w, i32_w]; rw [c8b0]) | skip)
            by_cases c9 : a1 ≤ 1
            · rw [if_pos c9] at H
              have c9b0 : decide (a1 ≤ 1) = true := decide_eq_true c9
              clear c9
              have H' := Aside0.mk H
              clear H
              go_wp2
              go_meet
              case rel => exact ⟨_, (decide (a2 ≤ 1)), (by first | rfl | (simp; done) | (simp [*]; done)), H', ⟨by have := HJ3.out; first | omega | exact Nat.le_refl _⟩, ⟨by repeat (first | (with_reducible first | exact HB.out | apply below_alloc | apply Ext.below_bytes | apply pw_below_drewN | apply below_drew1) | exact HB.out)⟩⟩
            · rw [if_neg c9] at H
              have c9b0 : decide (a1 ≤ 1) = false := decide_eq_false c9
              clear c9
              have H' := Aside0.mk H
              clear H
              go_wp2
              go_meet
              case rel => exact ⟨_, (false), (by first | rfl | (simp; done) | (simp [*]; done)), H', ⟨by have := HJ3.out; first | omega | exact Nat.le_refl _⟩, ⟨by repeat (first | (with_reducible first | exact HB.out | apply below_alloc | apply Ext.below_bytes | apply pw_below_drewN | apply below_drew1) | exact HB.out)⟩⟩
          · rw [if_neg c8] at H
            have c8b0 : (a0 == 0) = false := beq_eq_false_iff_ne.mpr c8
            have c8b1 : (a0 != 0) = true := bne_iff_ne.mpr c8
            (first | rw [c8b0] | (simp only [i64_w, i32_w]; rw [c8b0]) | skip)
            have H' := Aside0.mk H
            clear H
            go_wp2
            go_meet
            case rel => exact ⟨_, (false), (by first | rfl | (simp; done) | (simp [*]; done)), H', ⟨by have := HJ3.out; first | omega | exact Nat.le_refl _⟩, ⟨by repeat (first | (with_reducible first | exact HB.out | apply below_alloc | apply Ext.below_bytes | apply pw_below_drewN | apply below_drew1) | exact HB.out)⟩⟩
        case rest =>
          clear HC7
          try clear c2
          try clear p2
          try clear c5
          try clear c5b0
          try clear c5b1
          try clear c6
          try clear c8
          try clear c8b0
          try clear c8b1
          try clear c9
          try clear c9b0
          try clear p2
          obtain ⟨kq, x20_6, rfl, HA, HJ6, HB⟩ := hcut
          cases kq with
          | zero => exact absurd HA.out (by simp [spec_MadePair.j1])
          | succ kj6 =>
            have H := HA.out
            clear HA
            simp only [spec_MadePair.j1] at H
            by_cases c10 : x20_6 = true
            · subst c10
              have H1 : (some (⟨#[27, 91, 72]⟩ : ByteArray)) = some r := by rw [if_pos rfl] at H; exact H
              clear H
              have H := H1
              clear H1
              obtain rfl := Option.some.inj H
              go_wp2
              go_ret
              exact ⟨by first | rfl | (simp [errW_none, errW_some] <;> rfl) | (simp [*, errW_none, errW_some] <;> rfl), by repeat (first | (with_reducible first | exact HB.out | apply below_alloc | apply Ext.below_bytes | apply pw_below_drewN | apply below_drew1) | exact HB.out)⟩
            · replace c10 := Bool.eq_false_iff.mpr c10
              subst c10
              have H1 : ((spec_madeAbove.f kj6 a2 0).bind fun t230 => (if 2 + t230.size ≤ 9223372036854775807 then (if 2 + t230.size + 1 ≤ 9223372036854775807 then ((spec_madeAbove.f kj6 a1 0).bind fun t231 => (if 2 + t230.size + 1 + t231.size ≤ 9223372036854775807 then ((some (([(⟨#[72]⟩ : ByteArray), (⟨#[102]⟩ : ByteArray)] : List ByteArray) : List ByteArray)).bind fun y232 => (if 0 ≤ a0 then (if a0 < (y232.length : Int) then (if 2 + t230.size + 1 + t231.size + (rdOf ByteArray.empty y232 a0).size ≤ 9223372036854775807 then (some (((((⟨#[27, 91]⟩ : ByteArray) ++ t230) ++ (⟨#[59]⟩ : ByteArray)) ++ t231) ++ (rdOf ByteArray.empty y232 a0))) else (none)) else (none)) else (none))) else (none))) else (none)) else (none))) = some r := by rw [if_neg (show ¬ (false = true) by decide)] at H; exact H
              clear H
              have H := H1
              clear H1
              replace H := Option.bind_eq_some_iff.mp H
              obtain ⟨t230, A110, H⟩ := H
              replace H : (if 2 + t230.size ≤ 9223372036854775807 then (if 2 + t230.size + 1 ≤ 9223372036854775807 then ((spec_madeAbove.f kj6 a1 0).bind fun t231 => (if 2 + t230.size + 1 + t231.size ≤ 9223372036854775807 then ((some (([(⟨#[72]⟩ : ByteArray), (⟨#[102]⟩ : ByteArray)] : List ByteArray) : List ByteArray)).bind fun y232 => (if 0 ≤ a0 then (if a0 < (y232.length : Int) then (if 2 + t230.size + 1 + t231.size + (rdOf ByteArray.empty y232 a0).size ≤ 9223372036854775807 then (some (((((⟨#[27, 91]⟩ : ByteArray) ++ t230) ++ (⟨#[59]⟩ : ByteArray)) ++ t231) ++ (rdOf ByteArray.empty y232 a0))) else (none)) else (none)) else (none))) else (none))) else (none)) else (none)) = some r := H
              have A11 := Aside0.mk A110
              clear A110
              by_cases c12 : 2 + t230.size ≤ 9223372036854775807
              · rw [if_pos c12] at H
                have c12b0 := eq_true c12
                have c12b1 : decide (2 + t230.size ≤ 9223372036854775807) = true := decide_eq_true c12
                try have c12b2 : (9223372036854775807 < 2 + t230.size) = False := eq_false (Nat.not_lt.2 c12)
                by_cases c13 : 2 + t230.size + 1 ≤ 9223372036854775807
                · rw [if_pos c13] at H
                  have c13b0 := eq_true c13
                  have c13b1 : decide (2 + t230.size + 1 ≤ 9223372036854775807) = true := decide_eq_true c13
                  try have c13b2 : (9223372036854775807 < 2 + t230.size + 1) = False := eq_false (Nat.not_lt.2 c13)
                  replace H := Option.bind_eq_some_iff.mp H
                  obtain ⟨t231, A140, H⟩ := H
                  replace H : (if 2 + t230.size + 1 + t231.size ≤ 9223372036854775807 then ((some (([(⟨#[72]⟩ : ByteArray), (⟨#[102]⟩ : ByteArray)] : List ByteArray) : List ByteArray)).bind fun y232 => (if 0 ≤ a0 then (if a0 < (y232.length : Int) then (if 2 + t230.size + 1 + t231.size + (rdOf ByteArray.empty y232 a0).size ≤ 9223372036854775807 then (some (((((⟨#[27, 91]⟩ : ByteArray) ++ t230) ++ (⟨#[59]⟩ : ByteArray)) ++ t231) ++ (rdOf ByteArray.empty y232 a0))) else (none)) else (none)) else (none))) else (none)) = some r := H
                  have A14 := Aside0.mk A140
                  clear A140
                  by_cases c15 : 2 + t230.size + 1 + t231.size ≤ 9223372036854775807
                  · rw [if_pos c15] at H
                    have c15b0 := eq_true c15
                    have c15b1 : decide (2 + t230.size + 1 + t231.size ≤ 9223372036854775807) = true := decide_eq_true c15
                    try have c15b2 : (9223372036854775807 < 2 + t230.size + 1 + t231.size) = False := eq_false (Nat.not_lt.2 c15)
                    obtain ⟨y232, hy232⟩ : ∃ y_ : List ByteArray, y_ = (([(⟨#[72]⟩ : ByteArray), (⟨#[102]⟩ : ByteArray)] : List ByteArray)) := ⟨_, rfl⟩
                    replace H : (if 0 ≤ a0 then (if a0 < (y232.length : Int) then (if 2 + t230.size + 1 + t231.size + (rdOf ByteArray.empty y232 a0).size ≤ 9223372036854775807 then (some (((((⟨#[27, 91]⟩ : ByteArray) ++ t230) ++ (⟨#[59]⟩ : ByteArray)) ++ t231) ++ (rdOf ByteArray.empty y232 a0))) else (none)) else (none)) else (none)) = some r := by first | (rw [hy232]; with_reducible exact H) | (have H2_ := (Option.bind_some _ _).symm.trans H; rw [hy232]; with_reducible exact H2_) | (have H2_ := (Option.bind_some _ _).symm.trans H; with_reducible exact H2_) | with_reducible exact H | (rw [hy232]; exact H) | exact H
                    have Ny232 := Aside0.mk hy232
                    clear hy232
                    by_cases c16 : 0 ≤ a0
                    · rw [if_pos c16] at H
                      have c16b0 : decide (0 ≤ a0) = true := decide_eq_true c16
                      clear c16
                      by_cases c17 : a0 < (y232.length : Int)
                      · rw [if_pos c17] at H
                        have c17b0 : decide (a0 < (y232.length : Int)) = true := decide_eq_true c17
                        clear c17
                        by_cases c18 : 2 + t230.size + 1 + t231.size + (rdOf ByteArray.empty y232 a0).size ≤ 9223372036854775807
                        · rw [if_pos c18] at H
                          have c18b0 := eq_true c18
                          have c18b1 : decide (2 + t230.size + 1 + t231.size + (rdOf ByteArray.empty y232 a0).size ≤ 9223372036854775807) = true := decide_eq_true c18
                          try have c18b2 : (9223372036854775807 < 2 + t230.size + 1 + t231.size + (rdOf ByteArray.empty y232 a0).size) = False := eq_false (Nat.not_lt.2 c18)
                          obtain rfl := Option.some.inj H
                          try go_wp2
                          have pi235 : (0 ≤ (a0 : Int)) = True := eq_true (of_decide_eq_true (by first | (with_reducible assumption) | assumption))
                          have qi235 : (a0 < (y232.length : Int)) = True := eq_true (of_decide_eq_true (by first | (with_reducible assumption) | assumption))
                          have n0_ := Aside0.mk (below_drew1 HB.out)
                          clear HB
                          have HB := n0_
                          clear n0_
                          refine start_ (n := 13) (S := fun w' => True) (ds := []) #[false, false, false, false, false, false, false, false, false, false, false, false, false] (by kernel_rfl) rfl rfl trivial (fun hHeld => ?_); refine with_tabW spec_MadePair.tab6 spec_MadePair.bits6 (fun HT_ HW_ => ?_)
                          generalize wc.drew = w19 at HB hHeld ⊢
                          refine pure_ (i := 0) (N := some 21) (v := ?_) (a' := ?_) #[true, false, false, false, false, false, false, false, false, false, false, false, false] rfl rfl (any_of HT_.out (by kernel_rfl)) (fun _ _ _ h => h) (Or.inl ⟨by rfl, ?_⟩) ?_ ?_
                          rotate_left
                          · intro w'
                            go_simp
                            with_reducible rfl
                          rotate_left
                          · simp only [Act.put, List.setIfInBounds_toArray, List.set_cons_zero, List.set_cons_succ, i64_w, i32_w]
                            rfl
                          refine pure_ (i := 4) (N := some 25) (v := ?_) (a' := ?_) #[true, false, false, false, true, false, false, false, false, false, false, false, false] rfl rfl (any_of HT_.out (by kernel_rfl)) (fun _ _ _ h => h) (Or.inl ⟨by rfl, ?_⟩) ?_ ?_
                          rotate_left
                          · intro w'
                            go_simp
                            with_reducible rfl
                          rotate_left
                          · simp only [Act.put, List.setIfInBounds_toArray, List.set_cons_zero, List.set_cons_succ, i64_w, i32_w]
                            rfl
                          refine pure_ (i := 8) (N := some 29) (v := ?_) (a' := ?_) #[true, false, false, false, true, false, false, false, true, false, false, false, false] rfl rfl (any_of HT_.out (by kernel_rfl)) (fun _ _ _ h => h) (Or.inl ⟨by rfl, ?_⟩) ?_ ?_
                          rotate_left
                          · intro w'
                            go_simp
                            with_reducible rfl
                          rotate_left
                          · simp only [Act.put, List.setIfInBounds_toArray, List.set_cons_zero, List.set_cons_succ, i64_w, i32_w]
                            rfl
                          refine inv_at [1, 2, 3, 5, 6, 7, 9, 10, 11, 12] (fun a0_ b a w' => ∃ (v233 : Value) (adz_v233 : Addr) (m9_ : Value), a = putSel a0_ b [(1, 22, .string t230), (2, 23, .string ((⟨#[27, 91]⟩ : ByteArray) ++ t230)), (3, 24, .string (((⟨#[27, 91]⟩ : ByteArray) ++ t230) ++ (⟨#[59]⟩ : ByteArray))), (5, 26, .string t231), (6, 27, .string ((((⟨#[27, 91]⟩ : ByteArray) ++ t230) ++ (⟨#[59]⟩ : ByteArray)) ++ t231)), (7, 28, v233), (9, 30, m9_), (10, 31, .string (rdOf ByteArray.empty y232 a0)), (11, 32, .string (((((⟨#[27, 91]⟩ : ByteArray) ++ t230) ++ (⟨#[59]⟩ : ByteArray)) ++ t231) ++ (rdOf ByteArray.empty y232 a0))), (12, 6, .string (((((⟨#[27, 91]⟩ : ByteArray) ++ t230) ++ (⟨#[59]⟩ : ByteArray)) ++ t231) ++ (rdOf ByteArray.empty y232 a0)))] ∧ (Below w.heap.size w w') ∧ (b 7 = true → Kd.R Kd.string 9 w' w.heap.size (fun _ => True) v233 y232) ∧ (b 7 = true → ∃ c_, (v233 : Value) = .slice (some adz_v233) y232.length c_) ∧ (b 9 = true → (m9_ : Value) = .pointer (some (adz_v233.add (a0).toNat)))) HT_.out HW_.out (by kernel_rfl) (by kernel_rfl) ?_ ?_ ?_
                          · exact ⟨.bool false, ⟨0, 0, none⟩, .bool false, by simp only [putSel, Bool.false_eq_true, if_false], HB.out, fun h_ => absurd h_ (by decide), fun h_ => absurd h_ (by decide), fun h_ => absurd h_ (by decide)⟩
                          · skip
                            clear HB
                            refine steps_cons ?_ ?_
                            · rintro b a w' ⟨v233, adz_v233, m9_, ha, Q_HB, Q_HO234, Q_HA_HO234, Q_X9_⟩ hb_ hon hoff
                              refine ⟨_, rfl, fun K hK => ?_⟩
                              have e21 : a.tmps[21]? = some (.int .i64 a2) := by rw [ha]; exact (putSel_off rfl).trans rfl
                              replace ha := Aside0.mk ha
                              have HB := Aside0.mk Q_HB
                              refine goes_ Tryd.func72 (by kernel_rfl) rfl #[.int .i64 a2, .int .i64 0] (by rfl) rfl rfl (by (try simp only [List.map_toArray, List.map_cons, List.map_nil]); first | done | rfl | (simp only [List.length_drop, List.length_take]; rfl) | (simp [Act.eval, *]; done)) ?_
                              with_reducible refine (spec_madeAbove.calls kj6 a2 0 t230 _ A11.out).mono ?_
                              rintro e w20 ⟨rfl, hb⟩
                              refine ⟨_, rfl, ?_⟩
                              have n0_ := Aside0.mk (below_step (by repeat (first | (with_reducible first | exact HB.out | apply below_alloc | apply Ext.below_bytes | apply pw_below_drewN | apply below_drew1) | exact HB.out)) hb)
                              have z_HO234 := fun (h0_ : b 7 = true) => (show Kd.R Kd.string 9 w20 w.heap.size (fun _ => True) v233 y232 from by first | exact (Kd.R_below (by (with_reducible repeat (first | apply Kd.R_alloc | apply Ext.R_bytes | apply Kd.R_drewN | apply Kd.R_drew)); exact (Q_HO234 h0_)) hb) | exact Kd.R_mono (Kd.R_below (by (with_reducible repeat (first | apply Kd.R_alloc | apply Ext.R_bytes | apply Kd.R_drewN | apply Kd.R_drew)); exact (Q_HO234 h0_)) hb) (fun _ h_ => by first | trivial | exact h_ | exact h_.1))
                              clear HB
                              have HB := n0_
                              clear n0_
                              (try clear hb)
                              (try clear hb2)
                              (try clear hk)
                              (try clear hi)
                              refine hK.out _ _ ⟨v233, adz_v233, m9_, (by rw [ha.out]; exact putSel_upk 0 hb_ rfl rfl rfl), (by repeat (first | (with_reducible first | exact HB.out | apply below_alloc | apply Ext.below_bytes | apply pw_below_drewN | apply below_drew1) | exact HB.out)), z_HO234, Q_HA_HO234, Q_X9_⟩
                            refine steps_cons ?_ ?_
                            · rintro b a w' ⟨v233, adz_v233, m9_, ha, Q_HB, Q_HO234, Q_HA_HO234, Q_X9_⟩ hb_ hon hoff
                              refine ⟨_, rfl, fun K hK => ?_⟩
                              have e22 : a.tmps[22]? = some (.string t230) := by rw [ha]; exact putSel_on (e := (1, 22, .string t230)) 0 rfl rfl (hon 1 (by kernel_rfl)) rfl
                              replace ha := Aside0.mk ha
                              have HB := Aside0.mk Q_HB
                              refine value_ (w1 := w') (v := .string ((⟨#[27, 91]⟩ : ByteArray) ++ t230)) (by rfl) rfl ?_ ?_
                              · go_simp
                                (try simp only [i64_w])
                                try rfl
                              refine hK.out _ _ ⟨v233, adz_v233, m9_, (by rw [ha.out]; exact putSel_upk 1 hb_ rfl rfl rfl), Q_HB, Q_HO234, Q_HA_HO234, Q_X9_⟩
                            refine steps_cons ?_ ?_
                            · rintro b a w' ⟨v233, adz_v233, m9_, ha, Q_HB, Q_HO234, Q_HA_HO234, Q_X9_⟩ hb_ hon hoff
                              refine ⟨_, rfl, fun K hK => ?_⟩
                              have e23 : a.tmps[23]? = some (.string ((⟨#[27, 91]⟩ : ByteArray) ++ t230)) := by rw [ha]; exact putSel_on (e := (2, 23, .string ((⟨#[27, 91]⟩ : ByteArray) ++ t230))) 1 rfl rfl (hon 2 (by kernel_rfl)) rfl
                              replace ha := Aside0.mk ha
                              have HB := Aside0.mk Q_HB
                              refine value_ (w1 := w') (v := .string (((⟨#[27, 91]⟩ : ByteArray) ++ t230) ++ (⟨#[59]⟩ : ByteArray))) (by rfl) rfl ?_ ?_
                              · go_simp
                                (try simp only [i64_w])
                                try rfl
                              refine hK.out _ _ ⟨v233, adz_v233, m9_, (by rw [ha.out]; exact putSel_upk 2 hb_ rfl rfl rfl), Q_HB, Q_HO234, Q_HA_HO234, Q_X9_⟩
                            refine steps_cons ?_ ?_
                            · rintro b a w' ⟨v233, adz_v233, m9_, ha, Q_HB, Q_HO234, Q_HA_HO234, Q_X9_⟩ hb_ hon hoff
                              refine ⟨_, rfl, fun K hK => ?_⟩
                              have e25 : a.tmps[25]? = some (.int .i64 a1) := by rw [ha]; exact (putSel_off rfl).trans rfl
                              replace ha := Aside0.mk ha
                              have HB := Aside0.mk Q_HB
                              refine goes_ Tryd.func72 (by kernel_rfl) rfl #[.int .i64 a1, .int .i64 0] (by rfl) rfl rfl (by (try simp only [List.map_toArray, List.map_cons, List.map_nil]); first | done | rfl | (simp only [List.length_drop, List.length_take]; rfl) | (simp [Act.eval, *]; done)) ?_
                              with_reducible refine (spec_madeAbove.calls kj6 a1 0 t231 _ A14.out).mono ?_
                              rintro e w22 ⟨rfl, hb⟩
                              refine ⟨_, rfl, ?_⟩
                              have n0_ := Aside0.mk (below_step (by repeat (first | (with_reducible first | exact HB.out | apply below_alloc | apply Ext.below_bytes | apply pw_below_drewN | apply below_drew1) | exact HB.out)) hb)
                              have z_HO234 := fun (h0_ : b 7 = true) => (show Kd.R Kd.string 9 w22 w.heap.size (fun _ => True) v233 y232 from by first | exact (Kd.R_below (by (with_reducible repeat (first | apply Kd.R_alloc | apply Ext.R_bytes | apply Kd.R_drewN | apply Kd.R_drew)); exact (Q_HO234 h0_)) hb) | exact Kd.R_mono (Kd.R_below (by (with_reducible repeat (first | apply Kd.R_alloc | apply Ext.R_bytes | apply Kd.R_drewN | apply Kd.R_drew)); exact (Q_HO234 h0_)) hb) (fun _ h_ => by first | trivial | exact h_ | exact h_.1))
                              clear HB
                              have HB := n0_
                              clear n0_
                              (try clear hb)
                              (try clear hb2)
                              (try clear hk)
                              (try clear hi)
                              refine hK.out _ _ ⟨v233, adz_v233, m9_, (by rw [ha.out]; exact putSel_upk 3 hb_ rfl rfl rfl), (by repeat (first | (with_reducible first | exact HB.out | apply below_alloc | apply Ext.below_bytes | apply pw_below_drewN | apply below_drew1) | exact HB.out)), z_HO234, Q_HA_HO234, Q_X9_⟩
                            refine steps_cons ?_ ?_
                            · rintro b a w' ⟨v233, adz_v233, m9_, ha, Q_HB, Q_HO234, Q_HA_HO234, Q_X9_⟩ hb_ hon hoff
                              refine ⟨_, rfl, fun K hK => ?_⟩
                              have e24 : a.tmps[24]? = some (.string (((⟨#[27, 91]⟩ : ByteArray) ++ t230) ++ (⟨#[59]⟩ : ByteArray))) := by rw [ha]; exact putSel_on (e := (3, 24, .string (((⟨#[27, 91]⟩ : ByteArray) ++ t230) ++ (⟨#[59]⟩ : ByteArray)))) 2 rfl rfl (hon 3 (by kernel_rfl)) rfl
                              have e26 : a.tmps[26]? = some (.string t231) := by rw [ha]; exact putSel_on (e := (5, 26, .string t231)) 3 rfl rfl (hon 5 (by kernel_rfl)) rfl
                              replace ha := Aside0.mk ha
                              have HB := Aside0.mk Q_HB
                              refine value_ (w1 := w') (v := .string ((((⟨#[27, 91]⟩ : ByteArray) ++ t230) ++ (⟨#[59]⟩ : ByteArray)) ++ t231)) (by rfl) rfl ?_ ?_
                              · go_simp
                                (try simp only [i64_w])
                                try rfl
                              refine hK.out _ _ ⟨v233, adz_v233, m9_, (by rw [ha.out]; exact putSel_upk 4 hb_ rfl rfl rfl), Q_HB, Q_HO234, Q_HA_HO234, Q_X9_⟩
                            refine steps_cons ?_ ?_
                            · rintro b a w' ⟨v233, adz_v233, m9_, ha, Q_HB, Q_HO234, Q_HA_HO234, Q_X9_⟩ hb_ hon hoff
                              refine ⟨_, rfl, fun K hK => ?_⟩
                              replace ha := Aside0.mk ha
                              have HB := Aside0.mk Q_HB
                              refine Kd.R_lit_step Kd.string _ 9 ?hg (N := 28) ?hd (xs := ([(⟨#[72]⟩ : ByteArray), (⟨#[102]⟩ : ByteArray)] : List ByteArray)) (inner := [.string (⟨#[72]⟩ : ByteArray), .string (⟨#[102]⟩ : ByteArray)]) (ok := fun _ => True) (okp := fun _ => True) ?hr ?hp (fun _ hk => hk) trivial (Below.refl _ _) (Nat.le_refl _) (by simp) ?_; (case hd => rfl); (case hg => rfl); (case hr => first | (go_simp; done) | (go_simp; rfl)); (case hp => exact (Reps.one (show Kd.M Kd.string _ _ _ (⟨#[72]⟩ : ByteArray) [.string (⟨#[72]⟩ : ByteArray)] from rfl) (Reps.one (show Kd.M Kd.string _ _ _ (⟨#[102]⟩ : ByteArray) [.string (⟨#[102]⟩ : ByteArray)] from rfl) (Reps.none _ _))))
                              intro v233 w20 ho21 hb hg_ hnew_
                              clear hg_ hnew_
                              (first | rw [← Ny232.out] at ho21 | (simp only [Int.reduceToNat] at ho21; rw [← Ny232.out] at ho21))
                              have n0_ := Aside0.mk (Kd.R_lower ho21 (below_size (by repeat (first | (with_reducible first | exact HB.out | apply below_alloc | apply Ext.below_bytes | apply pw_below_drewN | apply below_drew1) | exact HB.out))))
                              have n1_ := Aside0.mk (below_step (by repeat (first | (with_reducible first | exact HB.out | apply below_alloc | apply Ext.below_bytes | apply pw_below_drewN | apply below_drew1) | exact HB.out)) hb)
                              clear HB
                              have HO234 := n0_
                              have HB := n1_
                              clear n0_ n1_
                              clear hb ho21
                              obtain ⟨Ao22, co22, eo22⟩ := Kd.R_slice HO234.out
                              subst eo22
                              obtain ⟨ado22, fo22, _⟩ := Kd.at_string (Kd.R_reads' HO234.out).2.2 0 (by decide) (by rw [Ny232.out]; simp)
                              cases fo22
                              refine hK.out _ _ ⟨.slice (some ado22) y232.length co22, ado22, m9_, (by rw [ha.out]; exact putSel_upk 5 hb_ rfl rfl rfl), (by repeat (first | (with_reducible first | exact HB.out | apply below_alloc | apply Ext.below_bytes | apply pw_below_drewN | apply below_drew1) | exact HB.out)), fun _ => (by (with_reducible repeat (first | apply Kd.R_alloc | apply Ext.R_bytes | apply Kd.R_drewN | apply Kd.R_drew)); exact HO234.out), fun _ => ⟨_, rfl⟩, fun h0_ => absurd ((hoff 9 (by kernel_rfl)).symm.trans h0_) (by decide)⟩
                            refine steps_cons ?_ ?_
                            · rintro b a w' ⟨v233, adz_v233, m9_, ha, Q_HB, Q_HO234, Q_HA_HO234, Q_X9_⟩ hb_ hon hoff
                              refine ⟨_, rfl, fun K hK => ?_⟩
                              have e28 : a.tmps[28]? = some (v233) := by rw [ha]; exact putSel_on (e := (7, 28, v233)) 5 rfl rfl (hon 7 (by kernel_rfl)) rfl
                              have e29 : a.tmps[29]? = some (.int .i64 a0) := by rw [ha]; exact (putSel_off rfl).trans rfl
                              replace ha := Aside0.mk ha
                              have HB := Aside0.mk Q_HB
                              have HO234 := Aside0.mk (Q_HO234 (hon 7 (by kernel_rfl)))
                              have HA_HO234 := Aside0.mk (Q_HA_HO234 (hon 7 (by kernel_rfl)))
                              obtain ⟨c_, hv_⟩ := HA_HO234.out
                              rw [hv_] at e28
                              refine value_ (w1 := w') (v := .pointer (some (adz_v233.add (a0).toNat))) (by rfl) rfl ?_ ?_
                              · go_simp
                                (try simp only [i64_w])
                                try rfl
                              refine hK.out _ _ ⟨v233, adz_v233, (.pointer (some (adz_v233.add (a0).toNat))), (by rw [ha.out]; exact putSel_upk 6 hb_ rfl rfl rfl), Q_HB, Q_HO234, Q_HA_HO234, fun _ => rfl⟩
                            refine steps_cons ?_ ?_
                            · rintro b a w' ⟨v233, adz_v233, m9_, ha, Q_HB, Q_HO234, Q_HA_HO234, Q_X9_⟩ hb_ hon hoff
                              refine ⟨_, rfl, fun K hK => ?_⟩
                              have e30 : a.tmps[30]? = some (m9_) := by rw [ha]; exact putSel_on (e := (9, 30, m9_)) 6 rfl rfl (hon 9 (by kernel_rfl)) rfl
                              rw [Q_X9_ (hon 9 (by kernel_rfl))] at e30
                              replace ha := Aside0.mk ha
                              have HB := Aside0.mk Q_HB
                              have HO234 := Aside0.mk (Q_HO234 (hon 7 (by kernel_rfl)))
                              have HA_HO234 := Aside0.mk (Q_HA_HO234 (hon 7 (by kernel_rfl)))
                              obtain ⟨c_, hv_⟩ := HA_HO234.out
                              have hF_ := HO234.out
                              rw [hv_] at hF_
                              obtain ⟨ad_, ea_, hx_⟩ := Kd.at_string (Kd.R_reads' hF_).2.2 a0 (of_eq_true pi235) (of_eq_true qi235)
                              cases ea_
                              refine value_ (w1 := w') (v := .string (rdOf ByteArray.empty y232 a0)) (by rfl) rfl ?_ ?_
                              · go_simp
                                (try simp only [i64_w])
                                try rfl
                              refine hK.out _ _ ⟨v233, adz_v233, m9_, (by rw [ha.out]; exact putSel_upk 7 hb_ rfl rfl rfl), Q_HB, Q_HO234, Q_HA_HO234, Q_X9_⟩
                            refine steps_cons ?_ ?_
                            · rintro b a w' ⟨v233, adz_v233, m9_, ha, Q_HB, Q_HO234, Q_HA_HO234, Q_X9_⟩ hb_ hon hoff
                              refine ⟨_, rfl, fun K hK => ?_⟩
                              have e27 : a.tmps[27]? = some (.string ((((⟨#[27, 91]⟩ : ByteArray) ++ t230) ++ (⟨#[59]⟩ : ByteArray)) ++ t231)) := by rw [ha]; exact putSel_on (e := (6, 27, .string ((((⟨#[27, 91]⟩ : ByteArray) ++ t230) ++ (⟨#[59]⟩ : ByteArray)) ++ t231))) 4 rfl rfl (hon 6 (by kernel_rfl)) rfl
                              have e31 : a.tmps[31]? = some (.string (rdOf ByteArray.empty y232 a0)) := by rw [ha]; exact putSel_on (e := (10, 31, .string (rdOf ByteArray.empty y232 a0))) 7 rfl rfl (hon 10 (by kernel_rfl)) rfl
                              replace ha := Aside0.mk ha
                              have HB := Aside0.mk Q_HB
                              have HO234 := Aside0.mk (Q_HO234 (hon 7 (by kernel_rfl)))
                              have HA_HO234 := Aside0.mk (Q_HA_HO234 (hon 7 (by kernel_rfl)))
                              refine value_ (w1 := w') (v := .string (((((⟨#[27, 91]⟩ : ByteArray) ++ t230) ++ (⟨#[59]⟩ : ByteArray)) ++ t231) ++ (rdOf ByteArray.empty y232 a0))) (by rfl) rfl ?_ ?_
                              · go_simp
                                (try simp only [i64_w])
                                try rfl
                              refine hK.out _ _ ⟨v233, adz_v233, m9_, (by rw [ha.out]; exact putSel_upk 8 hb_ rfl rfl rfl), Q_HB, Q_HO234, Q_HA_HO234, Q_X9_⟩
                            refine steps_cons ?_ ?_
                            · rintro b a w' ⟨v233, adz_v233, m9_, ha, Q_HB, Q_HO234, Q_HA_HO234, Q_X9_⟩ hb_ hon hoff
                              refine ⟨_, rfl, fun K hK => ?_⟩
                              have e32 : a.tmps[32]? = some (.string (((((⟨#[27, 91]⟩ : ByteArray) ++ t230) ++ (⟨#[59]⟩ : ByteArray)) ++ t231) ++ (rdOf ByteArray.empty y232 a0))) := by rw [ha]; exact putSel_on (e := (11, 32, .string (((((⟨#[27, 91]⟩ : ByteArray) ++ t230) ++ (⟨#[59]⟩ : ByteArray)) ++ t231) ++ (rdOf ByteArray.empty y232 a0)))) 8 rfl rfl (hon 11 (by kernel_rfl)) rfl
                              replace ha := Aside0.mk ha
                              have HB := Aside0.mk Q_HB
                              have HO234 := Aside0.mk (Q_HO234 (hon 7 (by kernel_rfl)))
                              have HA_HO234 := Aside0.mk (Q_HA_HO234 (hon 7 (by kernel_rfl)))
                              refine value_ (w1 := w') (v := .string (((((⟨#[27, 91]⟩ : ByteArray) ++ t230) ++ (⟨#[59]⟩ : ByteArray)) ++ t231) ++ (rdOf ByteArray.empty y232 a0))) (by rfl) rfl ?_ ?_
                              · go_simp
                                (try simp only [i64_w])
                                try rfl
                              refine hK.out _ _ ⟨v233, adz_v233, m9_, (by rw [ha.out]; exact putSel_upk 9 hb_ rfl rfl rfl), Q_HB, Q_HO234, Q_HA_HO234, Q_X9_⟩
                            exact steps_nil
                          rintro b a w25 hall ⟨v233, adz_v233, m9_, ha, Q_HB, Q_HO234, Q_HA_HO234, Q_X9_⟩
                          clear HB
                          have hb1_ := hall 1 (by kernel_rfl)
                          have hb2_ := hall 2 (by kernel_rfl)
                          have hb3_ := hall 3 (by kernel_rfl)
                          have hb5_ := hall 5 (by kernel_rfl)
                          have hb6_ := hall 6 (by kernel_rfl)
                          have hb7_ := hall 7 (by kernel_rfl)
                          have hb9_ := hall 9 (by kernel_rfl)
                          have hb10_ := hall 10 (by kernel_rfl)
                          have hb11_ := hall 11 (by kernel_rfl)
                          have hb12_ := hall 12 (by kernel_rfl)
                          subst ha
                          obtain rfl := Q_X9_ hb9_
                          simp only [putSel, hb1_, hb2_, hb3_, hb5_, hb6_, hb7_, hb9_, hb10_, hb11_, hb12_, if_true, Act.put, List.setIfInBounds_toArray, List.set_cons_zero, List.set_cons_succ]
                          have HB := Aside0.mk Q_HB
                          clear Q_HB
                          have HO234 := Aside0.mk (Q_HO234 hb7_)
                          clear Q_HO234
                          have HA_HO234 := Aside0.mk (Q_HA_HO234 hb7_)
                          clear Q_HA_HO234
                          clear hall hb1_ hb2_ hb3_ hb5_ hb6_ hb7_ hb9_ hb10_ hb11_ hb12_
                          obtain ⟨co26, eo26⟩ := HA_HO234.out
                          clear HA_HO234
                          subst eo26
                          try go_wp2
                          go_ret
                          exact ⟨by first | rfl | (simp [errW_none, errW_some] <;> rfl) | (simp [*, errW_none, errW_some] <;> rfl), by repeat (first | (with_reducible first | exact HB.out | apply below_alloc | apply Ext.below_bytes | apply pw_below_drewN | apply below_drew1) | exact HB.out)⟩
                        · rw [if_neg c18] at H
                          exact absurd H (by simp)
                      · rw [if_neg c17] at H
                        exact absurd H (by simp)
                    · rw [if_neg c16] at H
                      exact absurd H (by simp)
                  · rw [if_neg c15] at H
                    exact absurd H (by simp)
                · rw [if_neg c13] at H
                  exact absurd H (by simp)
              · rw [if_neg c12] at H
                exact absurd H (by simp)
      · replace c6 := Bool.eq_false_iff.mpr c6
        subst c6
        have H1 : (if a0 = 2 then (spec_MadePair.j2 kj3 a0 a1 a2 a0 (a0 == 2)) else (spec_MadePair.j2 kj3 a0 a1 a2 a0 (a0 == 3))) = some r := by rw [if_neg (show ¬ (false = true) by decide)] at H; exact H
        clear H
        have H := H1
        clear H1
        have HC27 := Aside0.mk H
        clear H
        go_upto_if 33 with (fail)
        go_cut [33] (fun v33 wc => ∃ (kq : Nat) (x33_26 : Bool), v33 = .bool x33_26 ∧ Aside0 (spec_MadePair.j2 kq a0 a1 a2 a0 x33_26 = some r) ∧ Aside0 (kq ≤ kj3) ∧ Aside0 (Below w.heap.size w wc))
        case first =>
          have H := HC27.out
          clear HC27
          by_cases c28 : a0 = 2
          · rw [if_pos c28] at H
            have c28b0 : (a0 == 2) = true := beq_iff_eq.mpr c28
            have c28b1 : (a0 != 2) = false := bne_eq_false_iff_eq.mpr c28
            clear c28
            (first | rw [c28b0] | (simp only [i64_w, i32_w]; rw [c28b0]) | skip)
            have H' := Aside0.mk H
            clear H
            go_wp2
            go_meet
            case rel => exact ⟨_, ((a0 == 2)), (by first | rfl | (simp; done) | (simp [*]; done)), H', ⟨by have := HJ3.out; first | omega | exact Nat.le_refl _⟩, ⟨by repeat (first | (with_reducible first | exact HB.out | apply below_alloc | apply Ext.below_bytes | apply pw_below_drewN | apply below_drew1) | exact HB.out)⟩⟩
          · rw [if_neg c28] at H
            have c28b0 : (a0 == 2) = false := beq_eq_false_iff_ne.mpr c28
            have c28b1 : (a0 != 2) = true := bne_iff_ne.mpr c28
            (first | rw [c28b0] | (simp only [i64_w, i32_w]; rw [c28b0]) | skip)
            have H' := Aside0.mk H
            clear H
            go_wp2
            go_meet
            case rel => exact ⟨_, ((a0 == 3)), (by first | rfl | (simp; done) | (simp [*]; done)), H', ⟨by have := HJ3.out; first | omega | exact Nat.le_refl _⟩, ⟨by repeat (first | (with_reducible first | exact HB.out | apply below_alloc | apply Ext.below_bytes | apply pw_below_drewN | apply below_drew1) | exact HB.out)⟩⟩
        case rest =>
          clear HC27
          try clear c1
          try clear c2
          try clear p2
          try clear qi2
          try clear c5
          try clear c5b0
          try clear c5b1
          try clear c6
          try clear c7
          try clear c8
          try clear c8b0
          try clear c8b1
          try clear c9
          try clear c9b0
          try clear c10
          try clear c12
          try clear c12b0
          try clear c12b1
          try clear c12b2
          try clear c13
          try clear c13b0
          try clear c13b1
          try clear c13b2
          try clear c15
          try clear c15b0
          try clear c15b1
          try clear c15b2
          try clear c16
          try clear c16b0
          try clear c17
          try clear c17b0
          try clear c18
          try clear c18b0
          try clear c18b1
          try clear c18b2
          try clear c21
          try clear qi23
          try clear c28
          try clear c28b0
          try clear c28b1
          try clear p2
          obtain ⟨kq, x33_26, rfl, HA, HJ26, HB⟩ := hcut
          cases kq with
          | zero => exact absurd HA.out (by simp [spec_MadePair.j2])
          | succ kj26 =>
            have H := HA.out
            clear HA
            simp only [spec_MadePair.j2] at H
            by_cases c29 : x33_26 = true
            · subst c29
              have H1 : ((spec_madeAbove.f kj26 a1 0).bind fun t236 => (if 2 + t236.size ≤ 9223372036854775807 then (if 2 + t236.size + 1 ≤ 9223372036854775807 then ((spec_madeAbove.f kj26 a2 0).bind fun t237 => (if 2 + t236.size + 1 + t237.size ≤ 9223372036854775807 then ((some (([(⟨#[114]⟩ : ByteArray), (⟨#[115]⟩ : ByteArray)] : List ByteArray) : List ByteArray)).bind fun y238 => (if 0 ≤ (wrap64 (a0 - 2)) then (if (wrap64 (a0 - 2)) < (y238.length : Int) then (if 2 + t236.size + 1 + t237.size + (rdOf ByteArray.empty y238 (wrap64 (a0 - 2))).size ≤ 9223372036854775807 then (some (((((⟨#[27, 91]⟩ : ByteArray) ++ t236) ++ (⟨#[59]⟩ : ByteArray)) ++ t237) ++ (rdOf ByteArray.empty y238 (wrap64 (a0 - 2))))) else (none)) else (none)) else (none))) else (none))) else (none)) else (none))) = some r := by rw [if_pos rfl] at H; exact H
              clear H
              have H := H1
              clear H1
              replace H := Option.bind_eq_some_iff.mp H
              obtain ⟨t236, A300, H⟩ := H
              replace H : (if 2 + t236.size ≤ 9223372036854775807 then (if 2 + t236.size + 1 ≤ 9223372036854775807 then ((spec_madeAbove.f kj26 a2 0).bind fun t237 => (if 2 + t236.size + 1 + t237.size ≤ 9223372036854775807 then ((some (([(⟨#[114]⟩ : ByteArray), (⟨#[115]⟩ : ByteArray)] : List ByteArray) : List ByteArray)).bind fun y238 => (if 0 ≤ (wrap64 (a0 - 2)) then (if (wrap64 (a0 - 2)) < (y238.length : Int) then (if 2 + t236.size + 1 + t237.size + (rdOf ByteArray.empty y238 (wrap64 (a0 - 2))).size ≤ 9223372036854775807 then (some (((((⟨#[27, 91]⟩ : ByteArray) ++ t236) ++ (⟨#[59]⟩ : ByteArray)) ++ t237) ++ (rdOf ByteArray.empty y238 (wrap64 (a0 - 2))))) else (none)) else (none)) else (none))) else (none))) else (none)) else (none)) = some r := H
              have A30 := Aside0.mk A300
              clear A300
              by_cases c31 : 2 + t236.size ≤ 9223372036854775807
              · rw [if_pos c31] at H
                have c31b0 := eq_true c31
                have c31b1 : decide (2 + t236.size ≤ 9223372036854775807) = true := decide_eq_true c31
                try have c31b2 : (9223372036854775807 < 2 + t236.size) = False := eq_false (Nat.not_lt.2 c31)
                by_cases c32 : 2 + t236.size + 1 ≤ 9223372036854775807
                · rw [if_pos c32] at H
                  have c32b0 := eq_true c32
                  have c32b1 : decide (2 + t236.size + 1 ≤ 9223372036854775807) = true := decide_eq_true c32
                  try have c32b2 : (9223372036854775807 < 2 + t236.size + 1) = False := eq_false (Nat.not_lt.2 c32)
                  replace H := Option.bind_eq_some_iff.mp H
                  obtain ⟨t237, A330, H⟩ := H
                  replace H : (if 2 + t236.size + 1 + t237.size ≤ 9223372036854775807 then ((some (([(⟨#[114]⟩ : ByteArray), (⟨#[115]⟩ : ByteArray)] : List ByteArray) : List ByteArray)).bind fun y238 => (if 0 ≤ (wrap64 (a0 - 2)) then (if (wrap64 (a0 - 2)) < (y238.length : Int) then (if 2 + t236.size + 1 + t237.size + (rdOf ByteArray.empty y238 (wrap64 (a0 - 2))).size ≤ 9223372036854775807 then (some (((((⟨#[27, 91]⟩ : ByteArray) ++ t236) ++ (⟨#[59]⟩ : ByteArray)) ++ t237) ++ (rdOf ByteArray.empty y238 (wrap64 (a0 - 2))))) else (none)) else (none)) else (none))) else (none)) = some r := H
                  have A33 := Aside0.mk A330
                  clear A330
                  by_cases c34 : 2 + t236.size + 1 + t237.size ≤ 9223372036854775807
                  · rw [if_pos c34] at H
                    have c34b0 := eq_true c34
                    have c34b1 : decide (2 + t236.size + 1 + t237.size ≤ 9223372036854775807) = true := decide_eq_true c34
                    try have c34b2 : (9223372036854775807 < 2 + t236.size + 1 + t237.size) = False := eq_false (Nat.not_lt.2 c34)
                    obtain ⟨y238, hy238⟩ : ∃ y_ : List ByteArray, y_ = (([(⟨#[114]⟩ : ByteArray), (⟨#[115]⟩ : ByteArray)] : List ByteArray)) := ⟨_, rfl⟩
                    replace H : (if 0 ≤ (wrap64 (a0 - 2)) then (if (wrap64 (a0 - 2)) < (y238.length : Int) then (if 2 + t236.size + 1 + t237.size + (rdOf ByteArray.empty y238 (wrap64 (a0 - 2))).size ≤ 9223372036854775807 then (some (((((⟨#[27, 91]⟩ : ByteArray) ++ t236) ++ (⟨#[59]⟩ : ByteArray)) ++ t237) ++ (rdOf ByteArray.empty y238 (wrap64 (a0 - 2))))) else (none)) else (none)) else (none)) = some r := by first | (rw [hy238]; with_reducible exact H) | (have H2_ := (Option.bind_some _ _).symm.trans H; rw [hy238]; with_reducible exact H2_) | (have H2_ := (Option.bind_some _ _).symm.trans H; with_reducible exact H2_) | with_reducible exact H | (rw [hy238]; exact H) | exact H
                    have Ny238 := Aside0.mk hy238
                    clear hy238
                    obtain ⟨ji35, hji35⟩ : ∃ j_ : Int, (wrap64 (a0 - 2)) = j_ := ⟨_, rfl⟩
                    replace H : (if 0 ≤ (ji35) then (if (ji35) < (y238.length : Int) then (if 2 + t236.size + 1 + t237.size + (rdOf ByteArray.empty y238 (ji35)).size ≤ 9223372036854775807 then (some (((((⟨#[27, 91]⟩ : ByteArray) ++ t236) ++ (⟨#[59]⟩ : ByteArray)) ++ t237) ++ (rdOf ByteArray.empty y238 (ji35)))) else (none)) else (none)) else (none)) = some r := by first | (rw [hji35] at H; exact H) | (simp only [hji35] at H ⊢; exact H)
                    (try rw [hji35] at A30)
                    (try rw [hji35] at A33)
                    have hji35w : (IntKind.i64.wrap (a0 - 2)) = ji35 := (i64_w _).trans hji35
                    by_cases c36 : 0 ≤ (ji35)
                    · rw [if_pos c36] at H
                      have c36b0 : decide (0 ≤ (ji35)) = true := decide_eq_true c36
                      clear c36
                      by_cases c37 : (ji35) < (y238.length : Int)
                      · rw [if_pos c37] at H
                        have c37b0 : decide ((ji35) < (y238.length : Int)) = true := decide_eq_true c37
                        clear c37
                        by_cases c38 : 2 + t236.size + 1 + t237.size + (rdOf ByteArray.empty y238 (ji35)).size ≤ 9223372036854775807
                        · rw [if_pos c38] at H
                          have c38b0 := eq_true c38
                          have c38b1 : decide (2 + t236.size + 1 + t237.size + (rdOf ByteArray.empty y238 (ji35)).size ≤ 9223372036854775807) = true := decide_eq_true c38
                          try have c38b2 : (9223372036854775807 < 2 + t236.size + 1 + t237.size + (rdOf ByteArray.empty y238 (ji35)).size) = False := eq_false (Nat.not_lt.2 c38)
                          obtain rfl := Option.some.inj H
                          try go_wp2
                          have pi241 : (0 ≤ ((ji35) : Int)) = True := eq_true (of_decide_eq_true (by first | (with_reducible assumption) | assumption))
                          have qi241 : ((ji35) < (y238.length : Int)) = True := eq_true (of_decide_eq_true (by first | (with_reducible assumption) | assumption))
                          have n0_ := Aside0.mk (below_drew1 HB.out)
                          clear HB
                          have HB := n0_
                          clear n0_
                          refine start_ (n := 14) (S := fun w' => True) (ds := []) #[false, false, false, false, false, false, false, false, false, false, false, false, false, false] (by kernel_rfl) rfl rfl trivial (fun hHeld => ?_); refine with_tabW spec_MadePair.tab9 spec_MadePair.bits9 (fun HT_ HW_ => ?_)
                          generalize wc.drew = w39 at HB hHeld ⊢
                          refine pure_ (i := 0) (N := some 36) (v := ?_) (a' := ?_) #[true, false, false, false, false, false, false, false, false, false, false, false, false, false] rfl rfl (any_of HT_.out (by kernel_rfl)) (fun _ _ _ h => h) (Or.inl ⟨by rfl, ?_⟩) ?_ ?_
                          rotate_left
                          · intro w'
                            go_simp
                            with_reducible rfl
                          rotate_left
                          · simp only [Act.put, List.setIfInBounds_toArray, List.set_cons_zero, List.set_cons_succ, i64_w, i32_w]
                            rfl
                          refine pure_ (i := 4) (N := some 40) (v := ?_) (a' := ?_) #[true, false, false, false, true, false, false, false, false, false, false, false, false, false] rfl rfl (any_of HT_.out (by kernel_rfl)) (fun _ _ _ h => h) (Or.inl ⟨by rfl, ?_⟩) ?_ ?_
                          rotate_left
                          · intro w'
                            go_simp
                            with_reducible rfl
                          rotate_left
                          · simp only [Act.put, List.setIfInBounds_toArray, List.set_cons_zero, List.set_cons_succ, i64_w, i32_w]
                            rfl
                          refine pure_ (i := 8) (N := some 44) (v := ?_) (a' := ?_) #[true, false, false, false, true, false, false, false, true, false, false, false, false, false] rfl rfl (any_of HT_.out (by kernel_rfl)) (fun _ _ _ h => h) (Or.inl ⟨by rfl, ?_⟩) ?_ ?_
                          rotate_left
                          · intro w'
                            go_simp
                            with_reducible rfl
                          rotate_left
                          · simp only [Act.put, List.setIfInBounds_toArray, List.set_cons_zero, List.set_cons_succ, i64_w, i32_w]
                            rfl
                          refine inv_at [1, 2, 3, 5, 6, 7, 9, 10, 11, 12, 13] (fun a0_ b a w' => ∃ (v239 : Value) (adz_v239 : Addr) (m10_ : Value), a = putSel a0_ b [(1, 37, .string t236), (2, 38, .string ((⟨#[27, 91]⟩ : ByteArray) ++ t236)), (3, 39, .string (((⟨#[27, 91]⟩ : ByteArray) ++ t236) ++ (⟨#[59]⟩ : ByteArray))), (5, 41, .string t237), (6, 42, .string ((((⟨#[27, 91]⟩ : ByteArray) ++ t236) ++ (⟨#[59]⟩ : ByteArray)) ++ t237)), (7, 43, v239), (9, 45, .int .i64 ji35), (10, 46, m10_), (11, 47, .string (rdOf ByteArray.empty y238 (ji35))), (12, 48, .string (((((⟨#[27, 91]⟩ : ByteArray) ++ t236) ++ (⟨#[59]⟩ : ByteArray)) ++ t237) ++ (rdOf ByteArray.empty y238 (ji35)))), (13, 6, .string (((((⟨#[27, 91]⟩ : ByteArray) ++ t236) ++ (⟨#[59]⟩ : ByteArray)) ++ t237) ++ (rdOf ByteArray.empty y238 (ji35))))] ∧ (Below w.heap.size w w') ∧ (b 7 = true → Kd.R Kd.string 9 w' w.heap.size (fun _ => True) v239 y238) ∧ (b 7 = true → ∃ c_, (v239 : Value) = .slice (some adz_v239) y238.length c_) ∧ (b 10 = true → (m10_ : Value) = .pointer (some (adz_v239.add ((ji35)).toNat)))) HT_.out HW_.out (by kernel_rfl) (by kernel_rfl) ?_ ?_ ?_
                          · exact ⟨.bool false, ⟨0, 0, none⟩, .bool false, by simp only [putSel, Bool.false_eq_true, if_false], HB.out, fun h_ => absurd h_ (by decide), fun h_ => absurd h_ (by decide), fun h_ => absurd h_ (by decide)⟩
                          · skip
                            clear HB
                            refine steps_cons ?_ ?_
                            · rintro b a w' ⟨v239, adz_v239, m10_, ha, Q_HB, Q_HO240, Q_HA_HO240, Q_X10_⟩ hb_ hon hoff
                              refine ⟨_, rfl, fun K hK => ?_⟩
                              have e36 : a.tmps[36]? = some (.int .i64 a1) := by rw [ha]; exact (putSel_off rfl).trans rfl
                              replace ha := Aside0.mk ha
                              have HB := Aside0.mk Q_HB
                              refine goes_ Tryd.func72 (by kernel_rfl) rfl #[.int .i64 a1, .int .i64 0] (by rfl) rfl rfl (by (try simp only [List.map_toArray, List.map_cons, List.map_nil]); first | done | rfl | (simp only [List.length_drop, List.length_take]; rfl) | (simp [Act.eval, *]; done)) ?_
                              with_reducible refine (spec_madeAbove.calls kj26 a1 0 t236 _ A30.out).mono ?_
                              rintro e w40 ⟨rfl, hb⟩
                              refine ⟨_, rfl, ?_⟩
                              have n0_ := Aside0.mk (below_step (by repeat (first | (with_reducible first | exact HB.out | apply below_alloc | apply Ext.below_bytes | apply pw_below_drewN | apply below_drew1) | exact HB.out)) hb)
                              have z_HO240 := fun (h0_ : b 7 = true) => (show Kd.R Kd.string 9 w40 w.heap.size (fun _ => True) v239 y238 from by first | exact (Kd.R_below (by (with_reducible repeat (first | apply Kd.R_alloc | apply Ext.R_bytes | apply Kd.R_drewN | apply Kd.R_drew)); exact (Q_HO240 h0_)) hb) | exact Kd.R_mono (Kd.R_below (by (with_reducible repeat (first | apply Kd.R_alloc | apply Ext.R_bytes | apply Kd.R_drewN | apply Kd.R_drew)); exact (Q_HO240 h0_)) hb) (fun _ h_ => by first | trivial | exact h_ | exact h_.1))
                              clear HB
                              have HB := n0_
                              clear n0_
                              (try clear hb)
                              (try clear hb2)
                              (try clear hk)
                              (try clear hi)
                              refine hK.out _ _ ⟨v239, adz_v239, m10_, (by rw [ha.out]; exact putSel_upk 0 hb_ rfl rfl rfl), (by repeat (first | (with_reducible first | exact HB.out | apply below_alloc | apply Ext.below_bytes | apply pw_below_drewN | apply below_drew1) | exact HB.out)), z_HO240, Q_HA_HO240, Q_X10_⟩
                            refine steps_cons ?_ ?_
                            · rintro b a w' ⟨v239, adz_v239, m10_, ha, Q_HB, Q_HO240, Q_HA_HO240, Q_X10_⟩ hb_ hon hoff
                              refine ⟨_, rfl, fun K hK => ?_⟩
                              have e37 : a.tmps[37]? = some (.string t236) := by rw [ha]; exact putSel_on (e := (1, 37, .string t236)) 0 rfl rfl (hon 1 (by kernel_rfl)) rfl
                              replace ha := Aside0.mk ha
                              have HB := Aside0.mk Q_HB
                              refine value_ (w1 := w') (v := .string ((⟨#[27, 91]⟩ : ByteArray) ++ t236)) (by rfl) rfl ?_ ?_
                              · go_simp
                                (try simp only [i64_w])
                                try rfl
                              refine hK.out _ _ ⟨v239, adz_v239, m10_, (by rw [ha.out]; exact putSel_upk 1 hb_ rfl rfl rfl), Q_HB, Q_HO240, Q_HA_HO240, Q_X10_⟩
                            refine steps_cons ?_ ?_
                            · rintro b a w' ⟨v239, adz_v239, m10_, ha, Q_HB, Q_HO240, Q_HA_HO240, Q_X10_⟩ hb_ hon hoff
                              refine ⟨_, rfl, fun K hK => ?_⟩
                              have e38 : a.tmps[38]? = some (.string ((⟨#[27, 91]⟩ : ByteArray) ++ t236)) := by rw [ha]; exact putSel_on (e := (2, 38, .string ((⟨#[27, 91]⟩ : ByteArray) ++ t236))) 1 rfl rfl (hon 2 (by kernel_rfl)) rfl
                              replace ha := Aside0.mk ha
                              have HB := Aside0.mk Q_HB
                              refine value_ (w1 := w') (v := .string (((⟨#[27, 91]⟩ : ByteArray) ++ t236) ++ (⟨#[59]⟩ : ByteArray))) (by rfl) rfl ?_ ?_
                              · go_simp
                                (try simp only [i64_w])
                                try rfl
                              refine hK.out _ _ ⟨v239, adz_v239, m10_, (by rw [ha.out]; exact putSel_upk 2 hb_ rfl rfl rfl), Q_HB, Q_HO240, Q_HA_HO240, Q_X10_⟩
                            refine steps_cons ?_ ?_
                            · rintro b a w' ⟨v239, adz_v239, m10_, ha, Q_HB, Q_HO240, Q_HA_HO240, Q_X10_⟩ hb_ hon hoff
                              refine ⟨_, rfl, fun K hK => ?_⟩
                              have e40 : a.tmps[40]? = some (.int .i64 a2) := by rw [ha]; exact (putSel_off rfl).trans rfl
                              replace ha := Aside0.mk ha
                              have HB := Aside0.mk Q_HB
                              refine goes_ Tryd.func72 (by kernel_rfl) rfl #[.int .i64 a2, .int .i64 0] (by rfl) rfl rfl (by (try simp only [List.map_toArray, List.map_cons, List.map_nil]); first | done | rfl | (simp only [List.length_drop, List.length_take]; rfl) | (simp [Act.eval, *]; done)) ?_
                              with_reducible refine (spec_madeAbove.calls kj26 a2 0 t237 _ A33.out).mono ?_
                              rintro e w42 ⟨rfl, hb⟩
                              refine ⟨_, rfl, ?_⟩
                              have n0_ := Aside0.mk (below_step (by repeat (first | (with_reducible first | exact HB.out | apply below_alloc | apply Ext.below_bytes | apply pw_below_drewN | apply below_drew1) | exact HB.out)) hb)
                              have z_HO240 := fun (h0_ : b 7 = true) => (show Kd.R Kd.string 9 w42 w.heap.size (fun _ => True) v239 y238 from by first | exact (Kd.R_below (by (with_reducible repeat (first | apply Kd.R_alloc | apply Ext.R_bytes | apply Kd.R_drewN | apply Kd.R_drew)); exact (Q_HO240 h0_)) hb) | exact Kd.R_mono (Kd.R_below (by (with_reducible repeat (first | apply Kd.R_alloc | apply Ext.R_bytes | apply Kd.R_drewN | apply Kd.R_drew)); exact (Q_HO240 h0_)) hb) (fun _ h_ => by first | trivial | exact h_ | exact h_.1))
                              clear HB
                              have HB := n0_
                              clear n0_
                              (try clear hb)
                              (try clear hb2)
                              (try clear hk)
                              (try clear hi)
                              refine hK.out _ _ ⟨v239, adz_v239, m10_, (by rw [ha.out]; exact putSel_upk 3 hb_ rfl rfl rfl), (by repeat (first | (with_reducible first | exact HB.out | apply below_alloc | apply Ext.below_bytes | apply pw_below_drewN | apply below_drew1) | exact HB.out)), z_HO240, Q_HA_HO240, Q_X10_⟩
                            refine steps_cons ?_ ?_
                            · rintro b a w' ⟨v239, adz_v239, m10_, ha, Q_HB, Q_HO240, Q_HA_HO240, Q_X10_⟩ hb_ hon hoff
                              refine ⟨_, rfl, fun K hK => ?_⟩
                              have e39 : a.tmps[39]? = some (.string (((⟨#[27, 91]⟩ : ByteArray) ++ t236) ++ (⟨#[59]⟩ : ByteArray))) := by rw [ha]; exact putSel_on (e := (3, 39, .string (((⟨#[27, 91]⟩ : ByteArray) ++ t236) ++ (⟨#[59]⟩ : ByteArray)))) 2 rfl rfl (hon 3 (by kernel_rfl)) rfl
                              have e41 : a.tmps[41]? = some (.string t237) := by rw [ha]; exact putSel_on (e := (5, 41, .string t237)) 3 rfl rfl (hon 5 (by kernel_rfl)) rfl
                              replace ha := Aside0.mk ha
                              have HB := Aside0.mk Q_HB
                              refine value_ (w1 := w') (v := .string ((((⟨#[27, 91]⟩ : ByteArray) ++ t236) ++ (⟨#[59]⟩ : ByteArray)) ++ t237)) (by rfl) rfl ?_ ?_
                              · go_simp
                                (try simp only [i64_w])
                                try rfl
                              refine hK.out _ _ ⟨v239, adz_v239, m10_, (by rw [ha.out]; exact putSel_upk 4 hb_ rfl rfl rfl), Q_HB, Q_HO240, Q_HA_HO240, Q_X10_⟩
                            refine steps_cons ?_ ?_
                            · rintro b a w' ⟨v239, adz_v239, m10_, ha, Q_HB, Q_HO240, Q_HA_HO240, Q_X10_⟩ hb_ hon hoff
                              refine ⟨_, rfl, fun K hK => ?_⟩
                              replace ha := Aside0.mk ha
                              have HB := Aside0.mk Q_HB
                              refine Kd.R_lit_step Kd.string _ 9 ?hg (N := 43) ?hd (xs := ([(⟨#[114]⟩ : ByteArray), (⟨#[115]⟩ : ByteArray)] : List ByteArray)) (inner := [.string (⟨#[114]⟩ : ByteArray), .string (⟨#[115]⟩ : ByteArray)]) (ok := fun _ => True) (okp := fun _ => True) ?hr ?hp (fun _ hk => hk) trivial (Below.refl _ _) (Nat.le_refl _) (by simp) ?_; (case hd => rfl); (case hg => rfl); (case hr => first | (go_simp; done) | (go_simp; rfl)); (case hp => exact (Reps.one (show Kd.M Kd.string _ _ _ (⟨#[114]⟩ : ByteArray) [.string (⟨#[114]⟩ : ByteArray)] from rfl) (Reps.one (show Kd.M Kd.string _ _ _ (⟨#[115]⟩ : ByteArray) [.string (⟨#[115]⟩ : ByteArray)] from rfl) (Reps.none _ _))))
                              intro v239 w40 ho41 hb hg_ hnew_
                              clear hg_ hnew_
                              (first | rw [← Ny238.out] at ho41 | (simp only [Int.reduceToNat] at ho41; rw [← Ny238.out] at ho41))
                              have n0_ := Aside0.mk (Kd.R_lower ho41 (below_size (by repeat (first | (with_reducible first | exact HB.out | apply below_alloc | apply Ext.below_bytes | apply pw_below_drewN | apply below_drew1) | exact HB.out))))
                              have n1_ := Aside0.mk (below_step (by repeat (first | (with_reducible first | exact HB.out | apply below_alloc | apply Ext.below_bytes | apply pw_below_drewN | apply below_drew1) | exact HB.out)) hb)
                              clear HB
                              have HO240 := n0_
                              have HB := n1_
                              clear n0_ n1_
                              clear hb ho41
                              obtain ⟨Ao42, co42, eo42⟩ := Kd.R_slice HO240.out
                              subst eo42
                              obtain ⟨ado42, fo42, _⟩ := Kd.at_string (Kd.R_reads' HO240.out).2.2 0 (by decide) (by rw [Ny238.out]; simp)
                              cases fo42
                              refine hK.out _ _ ⟨.slice (some ado42) y238.length co42, ado42, m10_, (by rw [ha.out]; exact putSel_upk 5 hb_ rfl rfl rfl), (by repeat (first | (with_reducible first | exact HB.out | apply below_alloc | apply Ext.below_bytes | apply pw_below_drewN | apply below_drew1) | exact HB.out)), fun _ => (by (with_reducible repeat (first | apply Kd.R_alloc | apply Ext.R_bytes | apply Kd.R_drewN | apply Kd.R_drew)); exact HO240.out), fun _ => ⟨_, rfl⟩, fun h0_ => absurd ((hoff 10 (by kernel_rfl)).symm.trans h0_) (by decide)⟩
                            refine steps_cons ?_ ?_
                            · rintro b a w' ⟨v239, adz_v239, m10_, ha, Q_HB, Q_HO240, Q_HA_HO240, Q_X10_⟩ hb_ hon hoff
                              refine ⟨_, rfl, fun K hK => ?_⟩
                              have e44 : a.tmps[44]? = some (.int .i64 a0) := by rw [ha]; exact (putSel_off rfl).trans rfl
                              replace ha := Aside0.mk ha
                              have HB := Aside0.mk Q_HB
                              refine value_ (w1 := w') (v := .int .i64 ji35) (by rfl) rfl ?_ ?_
                              · go_simp
                                (try simp only [i64_w])
                                try rfl
                              refine hK.out _ _ ⟨v239, adz_v239, m10_, (by rw [ha.out]; exact putSel_upk 6 hb_ rfl rfl rfl), Q_HB, Q_HO240, Q_HA_HO240, fun h0_ => absurd ((hoff 10 (by kernel_rfl)).symm.trans h0_) (by decide)⟩
                            refine steps_cons ?_ ?_
                            · rintro b a w' ⟨v239, adz_v239, m10_, ha, Q_HB, Q_HO240, Q_HA_HO240, Q_X10_⟩ hb_ hon hoff
                              refine ⟨_, rfl, fun K hK => ?_⟩
                              have e43 : a.tmps[43]? = some (v239) := by rw [ha]; exact putSel_on (e := (7, 43, v239)) 5 rfl rfl (hon 7 (by kernel_rfl)) rfl
                              have e45 : a.tmps[45]? = some (.int .i64 ji35) := by rw [ha]; exact putSel_on (e := (9, 45, .int .i64 ji35)) 6 rfl rfl (hon 9 (by kernel_rfl)) rfl
                              replace ha := Aside0.mk ha
                              have HB := Aside0.mk Q_HB
                              have HO240 := Aside0.mk (Q_HO240 (hon 7 (by kernel_rfl)))
                              have HA_HO240 := Aside0.mk (Q_HA_HO240 (hon 7 (by kernel_rfl)))
                              obtain ⟨c_, hv_⟩ := HA_HO240.out
                              rw [hv_] at e43
                              refine value_ (w1 := w') (v := .pointer (some (adz_v239.add ((ji35)).toNat))) (by rfl) rfl ?_ ?_
                              · go_simp
                                (try simp only [i64_w])
                                try rfl
                              refine hK.out _ _ ⟨v239, adz_v239, (.pointer (some (adz_v239.add ((ji35)).toNat))), (by rw [ha.out]; exact putSel_upk 7 hb_ rfl rfl rfl), Q_HB, Q_HO240, Q_HA_HO240, fun _ => rfl⟩
                            refine steps_cons ?_ ?_
                            · rintro b a w' ⟨v239, adz_v239, m10_, ha, Q_HB, Q_HO240, Q_HA_HO240, Q_X10_⟩ hb_ hon hoff
                              refine ⟨_, rfl, fun K hK => ?_⟩
                              have e46 : a.tmps[46]? = some (m10_) := by rw [ha]; exact putSel_on (e := (10, 46, m10_)) 7 rfl rfl (hon 10 (by kernel_rfl)) rfl
                              rw [Q_X10_ (hon 10 (by kernel_rfl))] at e46
                              replace ha := Aside0.mk ha
                              have HB := Aside0.mk Q_HB
                              have HO240 := Aside0.mk (Q_HO240 (hon 7 (by kernel_rfl)))
                              have HA_HO240 := Aside0.mk (Q_HA_HO240 (hon 7 (by kernel_rfl)))
                              obtain ⟨c_, hv_⟩ := HA_HO240.out
                              have hF_ := HO240.out
                              rw [hv_] at hF_
                              obtain ⟨ad_, ea_, hx_⟩ := Kd.at_string (Kd.R_reads' hF_).2.2 (ji35) (of_eq_true pi241) (of_eq_true qi241)
                              cases ea_
                              refine value_ (w1 := w') (v := .string (rdOf ByteArray.empty y238 (ji35))) (by rfl) rfl ?_ ?_
                              · go_simp
                                (try simp only [i64_w])
                                try rfl
                              refine hK.out _ _ ⟨v239, adz_v239, m10_, (by rw [ha.out]; exact putSel_upk 8 hb_ rfl rfl rfl), Q_HB, Q_HO240, Q_HA_HO240, Q_X10_⟩
                            refine steps_cons ?_ ?_
                            · rintro b a w' ⟨v239, adz_v239, m10_, ha, Q_HB, Q_HO240, Q_HA_HO240, Q_X10_⟩ hb_ hon hoff
                              refine ⟨_, rfl, fun K hK => ?_⟩
                              have e42 : a.tmps[42]? = some (.string ((((⟨#[27, 91]⟩ : ByteArray) ++ t236) ++ (⟨#[59]⟩ : ByteArray)) ++ t237)) := by rw [ha]; exact putSel_on (e := (6, 42, .string ((((⟨#[27, 91]⟩ : ByteArray) ++ t236) ++ (⟨#[59]⟩ : ByteArray)) ++ t237))) 4 rfl rfl (hon 6 (by kernel_rfl)) rfl
                              have e47 : a.tmps[47]? = some (.string (rdOf ByteArray.empty y238 (ji35))) := by rw [ha]; exact putSel_on (e := (11, 47, .string (rdOf ByteArray.empty y238 (ji35)))) 8 rfl rfl (hon 11 (by kernel_rfl)) rfl
                              replace ha := Aside0.mk ha
                              have HB := Aside0.mk Q_HB
                              have HO240 := Aside0.mk (Q_HO240 (hon 7 (by kernel_rfl)))
                              have HA_HO240 := Aside0.mk (Q_HA_HO240 (hon 7 (by kernel_rfl)))
                              refine value_ (w1 := w') (v := .string (((((⟨#[27, 91]⟩ : ByteArray) ++ t236) ++ (⟨#[59]⟩ : ByteArray)) ++ t237) ++ (rdOf ByteArray.empty y238 (ji35)))) (by rfl) rfl ?_ ?_
                              · go_simp
                                (try simp only [i64_w])
                                try rfl
                              refine hK.out _ _ ⟨v239, adz_v239, m10_, (by rw [ha.out]; exact putSel_upk 9 hb_ rfl rfl rfl), Q_HB, Q_HO240, Q_HA_HO240, Q_X10_⟩
                            refine steps_cons ?_ ?_
                            · rintro b a w' ⟨v239, adz_v239, m10_, ha, Q_HB, Q_HO240, Q_HA_HO240, Q_X10_⟩ hb_ hon hoff
                              refine ⟨_, rfl, fun K hK => ?_⟩
                              have e48 : a.tmps[48]? = some (.string (((((⟨#[27, 91]⟩ : ByteArray) ++ t236) ++ (⟨#[59]⟩ : ByteArray)) ++ t237) ++ (rdOf ByteArray.empty y238 (ji35)))) := by rw [ha]; exact putSel_on (e := (12, 48, .string (((((⟨#[27, 91]⟩ : ByteArray) ++ t236) ++ (⟨#[59]⟩ : ByteArray)) ++ t237) ++ (rdOf ByteArray.empty y238 (ji35))))) 9 rfl rfl (hon 12 (by kernel_rfl)) rfl
                              replace ha := Aside0.mk ha
                              have HB := Aside0.mk Q_HB
                              have HO240 := Aside0.mk (Q_HO240 (hon 7 (by kernel_rfl)))
                              have HA_HO240 := Aside0.mk (Q_HA_HO240 (hon 7 (by kernel_rfl)))
                              refine value_ (w1 := w') (v := .string (((((⟨#[27, 91]⟩ : ByteArray) ++ t236) ++ (⟨#[59]⟩ : ByteArray)) ++ t237) ++ (rdOf ByteArray.empty y238 (ji35)))) (by rfl) rfl ?_ ?_
                              · go_simp
                                (try simp only [i64_w])
                                try rfl
                              refine hK.out _ _ ⟨v239, adz_v239, m10_, (by rw [ha.out]; exact putSel_upk 10 hb_ rfl rfl rfl), Q_HB, Q_HO240, Q_HA_HO240, Q_X10_⟩
                            exact steps_nil
                          rintro b a w45 hall ⟨v239, adz_v239, m10_, ha, Q_HB, Q_HO240, Q_HA_HO240, Q_X10_⟩
                          clear HB
                          have hb1_ := hall 1 (by kernel_rfl)
                          have hb2_ := hall 2 (by kernel_rfl)
                          have hb3_ := hall 3 (by kernel_rfl)
                          have hb5_ := hall 5 (by kernel_rfl)
                          have hb6_ := hall 6 (by kernel_rfl)
                          have hb7_ := hall 7 (by kernel_rfl)
                          have hb9_ := hall 9 (by kernel_rfl)
                          have hb10_ := hall 10 (by kernel_rfl)
                          have hb11_ := hall 11 (by kernel_rfl)
                          have hb12_ := hall 12 (by kernel_rfl)
                          have hb13_ := hall 13 (by kernel_rfl)
                          subst ha
                          obtain rfl := Q_X10_ hb10_
                          simp only [putSel, hb1_, hb2_, hb3_, hb5_, hb6_, hb7_, hb9_, hb10_, hb11_, hb12_, hb13_, if_true, Act.put, List.setIfInBounds_toArray, List.set_cons_zero, List.set_cons_succ]
                          have HB := Aside0.mk Q_HB
                          clear Q_HB
                          have HO240 := Aside0.mk (Q_HO240 hb7_)
                          clear Q_HO240
                          have HA_HO240 := Aside0.mk (Q_HA_HO240 hb7_)
                          clear Q_HA_HO240
                          clear hall hb1_ hb2_ hb3_ hb5_ hb6_ hb7_ hb9_ hb10_ hb11_ hb12_ hb13_
                          obtain ⟨co46, eo46⟩ := HA_HO240.out
                          clear HA_HO240
                          subst eo46
                          try go_wp2
                          go_ret
                          exact ⟨by first | rfl | (simp [errW_none, errW_some] <;> rfl) | (simp only [← hji35]; first | rfl | (simp [errW_none, errW_some] <;> rfl)) | (simp [*, errW_none, errW_some] <;> rfl), by repeat (first | (with_reducible first | exact HB.out | apply below_alloc | apply Ext.below_bytes | apply pw_below_drewN | apply below_drew1) | exact HB.out)⟩
                        · rw [if_neg c38] at H
                          exact absurd H (by simp)
                      · rw [if_neg c37] at H
                        exact absurd H (by simp)
                    · rw [if_neg c36] at H
                      exact absurd H (by simp)
                  · rw [if_neg c34] at H
                    exact absurd H (by simp)
                · rw [if_neg c32] at H
                  exact absurd H (by simp)
              · rw [if_neg c31] at H
                exact absurd H (by simp)
            · replace c29 := Bool.eq_false_iff.mpr c29
              subst c29
              have H1 : (if a0 = 4 then ((spec_Digits.f kj26 (mx a1 1)).bind fun t242 => (if 2 + t242.size ≤ 9223372036854775807 then (if 2 + t242.size + 1 ≤ 9223372036854775807 then ((spec_Digits.f kj26 (mx a2 1)).bind fun t243 => (if 2 + t242.size + 1 + t243.size ≤ 9223372036854775807 then (if 2 + t242.size + 1 + t243.size + 1 ≤ 9223372036854775807 then (some (((((⟨#[27, 91]⟩ : ByteArray) ++ t242) ++ (⟨#[59]⟩ : ByteArray)) ++ t243) ++ (⟨#[82]⟩ : ByteArray))) else (none)) else (none))) else (none)) else (none))) else (if a0 = 5 then ((spec_Digits.f kj26 a1).bind fun t244 => (if 3 + t244.size ≤ 9223372036854775807 then (if 3 + t244.size + 1 ≤ 9223372036854775807 then ((spec_Digits.f kj26 a2).bind fun t245 => (if 3 + t244.size + 1 + t245.size ≤ 9223372036854775807 then (if 3 + t244.size + 1 + t245.size + 1 ≤ 9223372036854775807 then (some (((((⟨#[27, 91, 61]⟩ : ByteArray) ++ t244) ++ (⟨#[59]⟩ : ByteArray)) ++ t245) ++ (⟨#[117]⟩ : ByteArray))) else (none)) else (none))) else (none)) else (none))) else ((spec_MadeList.f kj26 6 (([a1, a2] : List Int))).bind fun t249 => (some t249)))) = some r := by rw [if_neg (show ¬ (false = true) by decide)] at H; exact H
              clear H
              have H := H1
              clear H1
              by_cases c47 : a0 = 4
              · rw [if_pos c47] at H
                have c47b0 : (a0 == 4) = true := beq_iff_eq.mpr c47
                have c47b1 : (a0 != 4) = false := bne_eq_false_iff_eq.mpr c47
                clear c47
                obtain ⟨ji48, hji48⟩ : ∃ j_ : Int, (mx a1 1) = j_ := ⟨_, rfl⟩
                replace H : ((spec_Digits.f kj26 (ji48)).bind fun t242 => (if 2 + t242.size ≤ 9223372036854775807 then (if 2 + t242.size + 1 ≤ 9223372036854775807 then ((spec_Digits.f kj26 (mx a2 1)).bind fun t243 => (if 2 + t242.size + 1 + t243.size ≤ 9223372036854775807 then (if 2 + t242.size + 1 + t243.size + 1 ≤ 9223372036854775807 then (some (((((⟨#[27, 91]⟩ : ByteArray) ++ t242) ++ (⟨#[59]⟩ : ByteArray)) ++ t243) ++ (⟨#[82]⟩ : ByteArray))) else (none)) else (none))) else (none)) else (none))) = some r := by first | (rw [hji48] at H; exact H) | (simp only [hji48] at H ⊢; exact H)
                have hji48_ : (if a1 < 1 then 1 else a1) = ji48 := hji48
                replace H := Option.bind_eq_some_iff.mp H
                obtain ⟨t242, A490, H⟩ := H
                replace H : (if 2 + t242.size ≤ 9223372036854775807 then (if 2 + t242.size + 1 ≤ 9223372036854775807 then ((spec_Digits.f kj26 (mx a2 1)).bind fun t243 => (if 2 + t242.size + 1 + t243.size ≤ 9223372036854775807 then (if 2 + t242.size + 1 + t243.size + 1 ≤ 9223372036854775807 then (some (((((⟨#[27, 91]⟩ : ByteArray) ++ t242) ++ (⟨#[59]⟩ : ByteArray)) ++ t243) ++ (⟨#[82]⟩ : ByteArray))) else (none)) else (none))) else (none)) else (none)) = some r := H
                have A49 := Aside0.mk A490
                clear A490
                by_cases c50 : 2 + t242.size ≤ 9223372036854775807
                · rw [if_pos c50] at H
                  have c50b0 := eq_true c50
                  have c50b1 : decide (2 + t242.size ≤ 9223372036854775807) = true := decide_eq_true c50
                  try have c50b2 : (9223372036854775807 < 2 + t242.size) = False := eq_false (Nat.not_lt.2 c50)
                  by_cases c51 : 2 + t242.size + 1 ≤ 9223372036854775807
                  · rw [if_pos c51] at H
                    have c51b0 := eq_true c51
                    have c51b1 : decide (2 + t242.size + 1 ≤ 9223372036854775807) = true := decide_eq_true c51
                    try have c51b2 : (9223372036854775807 < 2 + t242.size + 1) = False := eq_false (Nat.not_lt.2 c51)
                    obtain ⟨ji52, hji52⟩ : ∃ j_ : Int, (mx a2 1) = j_ := ⟨_, rfl⟩
                    replace H : ((spec_Digits.f kj26 (ji52)).bind fun t243 => (if 2 + t242.size + 1 + t243.size ≤ 9223372036854775807 then (if 2 + t242.size + 1 + t243.size + 1 ≤ 9223372036854775807 then (some (((((⟨#[27, 91]⟩ : ByteArray) ++ t242) ++ (⟨#[59]⟩ : ByteArray)) ++ t243) ++ (⟨#[82]⟩ : ByteArray))) else (none)) else (none))) = some r := by first | (rw [hji52] at H; exact H) | (simp only [hji52] at H ⊢; exact H)
                    (try rw [hji52] at A49)
                    have hji52_ : (if a2 < 1 then 1 else a2) = ji52 := hji52
                    replace H := Option.bind_eq_some_iff.mp H
                    obtain ⟨t243, A530, H⟩ := H
                    replace H : (if 2 + t242.size + 1 + t243.size ≤ 9223372036854775807 then (if 2 + t242.size + 1 + t243.size + 1 ≤ 9223372036854775807 then (some (((((⟨#[27, 91]⟩ : ByteArray) ++ t242) ++ (⟨#[59]⟩ : ByteArray)) ++ t243) ++ (⟨#[82]⟩ : ByteArray))) else (none)) else (none)) = some r := H
                    have A53 := Aside0.mk A530
                    clear A530
                    by_cases c54 : 2 + t242.size + 1 + t243.size ≤ 9223372036854775807
                    · rw [if_pos c54] at H
                      have c54b0 := eq_true c54
                      have c54b1 : decide (2 + t242.size + 1 + t243.size ≤ 9223372036854775807) = true := decide_eq_true c54
                      try have c54b2 : (9223372036854775807 < 2 + t242.size + 1 + t243.size) = False := eq_false (Nat.not_lt.2 c54)
                      by_cases c55 : 2 + t242.size + 1 + t243.size + 1 ≤ 9223372036854775807
                      · rw [if_pos c55] at H
                        have c55b0 := eq_true c55
                        have c55b1 : decide (2 + t242.size + 1 + t243.size + 1 ≤ 9223372036854775807) = true := decide_eq_true c55
                        try have c55b2 : (9223372036854775807 < 2 + t242.size + 1 + t243.size + 1) = False := eq_false (Nat.not_lt.2 c55)
                        obtain rfl := Option.some.inj H
                        go_wp2_with (first | ((with_reducible refine gate_callee (f := 71) rfl ?_); refine goesL_ (some 53) rfl rfl Tryd.func71 (by kernel_rfl) rfl #[.int .i64 ji48] rfl (by (try simp only [List.map_toArray, List.map_cons, List.map_nil]); first | done | (simp only [hji48]; rfl) | rfl | (simp only [List.length_drop, List.length_take]; rfl) | (simp [Act.eval, *]; done)) ?_; (with_reducible refine (spec_Digits.calls kj26 ji48 t242 _ A49.out).mono ?_); rintro e w56 ⟨rfl, hb⟩; refine ⟨_, rfl, ?_⟩; have n0_ := Aside0.mk (below_step (by repeat (first | (with_reducible first | exact HB.out | apply below_alloc | apply Ext.below_bytes | apply pw_below_drewN | apply below_drew1) | exact HB.out)) hb); clear HB; have HB := n0_; clear n0_; (try clear hb); (try clear hb2); (try clear hk); (try clear hi)) | ((with_reducible refine gate_callee (f := 71) rfl ?_); refine goesL_ (some 58) rfl rfl Tryd.func71 (by kernel_rfl) rfl #[.int .i64 ji52] rfl (by (try simp only [List.map_toArray, List.map_cons, List.map_nil]); first | done | (simp only [hji52]; rfl) | rfl | (simp only [List.length_drop, List.length_take]; rfl) | (simp [Act.eval, *]; done)) ?_; (with_reducible refine (spec_Digits.calls kj26 ji52 t243 _ A53.out).mono ?_); rintro e w57 ⟨rfl, hb⟩; refine ⟨_, rfl, ?_⟩; have n0_ := Aside0.mk (below_step (by repeat (first | (with_reducible first | exact HB.out | apply below_alloc | apply Ext.below_bytes | apply pw_below_drewN | apply below_drew1) | exact HB.out)) hb); clear HB; have HB := n0_; clear n0_; (try clear hb); (try clear hb2); (try clear hk); (try clear hi)))
                        go_ret
                        exact ⟨by first | rfl | (simp [errW_none, errW_some] <;> rfl) | (simp only [← hji48, ← hji52]; first | rfl | (simp [errW_none, errW_some] <;> rfl)) | (simp [*, errW_none, errW_some] <;> rfl), by repeat (first | (with_reducible first | exact HB.out | apply below_alloc | apply Ext.below_bytes | apply pw_below_drewN | apply below_drew1) | exact HB.out)⟩
                      · rw [if_neg c55] at H
                        exact absurd H (by simp)
                    · rw [if_neg c54] at H
                      exact absurd H (by simp)
                  · rw [if_neg c51] at H
                    exact absurd H (by simp)
                · rw [if_neg c50] at H
                  exact absurd H (by simp)
              · rw [if_neg c47] at H
                have c47b0 : (a0 == 4) = false := beq_eq_false_iff_ne.mpr c47
                have c47b1 : (a0 != 4) = true := bne_iff_ne.mpr c47
                by_cases c58 : a0 = 5
                · rw [if_pos c58] at H
                  have c58b0 : (a0 == 5) = true := beq_iff_eq.mpr c58
                  have c58b1 : (a0 != 5) = false := bne_eq_false_iff_eq.mpr c58
                  clear c58
                  replace H := Option.bind_eq_some_iff.mp H
                  obtain ⟨t244, A590, H⟩ := H
                  replace H : (if 3 + t244.size ≤ 9223372036854775807 then (if 3 + t244.size + 1 ≤ 9223372036854775807 then ((spec_Digits.f kj26 a2).bind fun t245 => (if 3 + t244.size + 1 + t245.size ≤ 9223372036854775807 then (if 3 + t244.size + 1 + t245.size + 1 ≤ 9223372036854775807 then (some (((((⟨#[27, 91, 61]⟩ : ByteArray) ++ t244) ++ (⟨#[59]⟩ : ByteArray)) ++ t245) ++ (⟨#[117]⟩ : ByteArray))) else (none)) else (none))) else (none)) else (none)) = some r := H
                  have A59 := Aside0.mk A590
                  clear A590
                  by_cases c60 : 3 + t244.size ≤ 9223372036854775807
                  · rw [if_pos c60] at H
                    have c60b0 := eq_true c60
                    have c60b1 : decide (3 + t244.size ≤ 9223372036854775807) = true := decide_eq_true c60
                    try have c60b2 : (9223372036854775807 < 3 + t244.size) = False := eq_false (Nat.not_lt.2 c60)
                    by_cases c61 : 3 + t244.size + 1 ≤ 9223372036854775807
                    · rw [if_pos c61] at H
                      have c61b0 := eq_true c61
                      have c61b1 : decide (3 + t244.size + 1 ≤ 9223372036854775807) = true := decide_eq_true c61
                      try have c61b2 : (9223372036854775807 < 3 + t244.size + 1) = False := eq_false (Nat.not_lt.2 c61)
                      replace H := Option.bind_eq_some_iff.mp H
                      obtain ⟨t245, A620, H⟩ := H
                      replace H : (if 3 + t244.size + 1 + t245.size ≤ 9223372036854775807 then (if 3 + t244.size + 1 + t245.size + 1 ≤ 9223372036854775807 then (some (((((⟨#[27, 91, 61]⟩ : ByteArray) ++ t244) ++ (⟨#[59]⟩ : ByteArray)) ++ t245) ++ (⟨#[117]⟩ : ByteArray))) else (none)) else (none)) = some r := H
                      have A62 := Aside0.mk A620
                      clear A620
                      by_cases c63 : 3 + t244.size + 1 + t245.size ≤ 9223372036854775807
                      · rw [if_pos c63] at H
                        have c63b0 := eq_true c63
                        have c63b1 : decide (3 + t244.size + 1 + t245.size ≤ 9223372036854775807) = true := decide_eq_true c63
                        try have c63b2 : (9223372036854775807 < 3 + t244.size + 1 + t245.size) = False := eq_false (Nat.not_lt.2 c63)
                        by_cases c64 : 3 + t244.size + 1 + t245.size + 1 ≤ 9223372036854775807
                        · rw [if_pos c64] at H
                          have c64b0 := eq_true c64
                          have c64b1 : decide (3 + t244.size + 1 + t245.size + 1 ≤ 9223372036854775807) = true := decide_eq_true c64
                          try have c64b2 : (9223372036854775807 < 3 + t244.size + 1 + t245.size + 1) = False := eq_false (Nat.not_lt.2 c64)
                          obtain rfl := Option.some.inj H
                          go_wp2_with (first | ((with_reducible refine gate_callee (f := 71) rfl ?_); refine goesL_ (some 64) rfl rfl Tryd.func71 (by kernel_rfl) rfl #[.int .i64 a1] rfl (by (try simp only [List.map_toArray, List.map_cons, List.map_nil]); first | done | rfl | (simp only [List.length_drop, List.length_take]; rfl) | (simp [Act.eval, *]; done)) ?_; (with_reducible refine (spec_Digits.calls kj26 a1 t244 _ A59.out).mono ?_); rintro e w65 ⟨rfl, hb⟩; refine ⟨_, rfl, ?_⟩; have n0_ := Aside0.mk (below_step (by repeat (first | (with_reducible first | exact HB.out | apply below_alloc | apply Ext.below_bytes | apply pw_below_drewN | apply below_drew1) | exact HB.out)) hb); clear HB; have HB := n0_; clear n0_; (try clear hb); (try clear hb2); (try clear hk); (try clear hi)) | ((with_reducible refine gate_callee (f := 71) rfl ?_); refine goesL_ (some 68) rfl rfl Tryd.func71 (by kernel_rfl) rfl #[.int .i64 a2] rfl (by (try simp only [List.map_toArray, List.map_cons, List.map_nil]); first | done | rfl | (simp only [List.length_drop, List.length_take]; rfl) | (simp [Act.eval, *]; done)) ?_; (with_reducible refine (spec_Digits.calls kj26 a2 t245 _ A62.out).mono ?_); rintro e w66 ⟨rfl, hb⟩; refine ⟨_, rfl, ?_⟩; have n0_ := Aside0.mk (below_step (by repeat (first | (with_reducible first | exact HB.out | apply below_alloc | apply Ext.below_bytes | apply pw_below_drewN | apply below_drew1) | exact HB.out)) hb); clear HB; have HB := n0_; clear n0_; (try clear hb); (try clear hb2); (try clear hk); (try clear hi)))
                          go_ret
                          exact ⟨by first | rfl | (simp [errW_none, errW_some] <;> rfl) | (simp [*, errW_none, errW_some] <;> rfl), by repeat (first | (with_reducible first | exact HB.out | apply below_alloc | apply Ext.below_bytes | apply pw_below_drewN | apply below_drew1) | exact HB.out)⟩
                        · rw [if_neg c64] at H
                          exact absurd H (by simp)
                      · rw [if_neg c63] at H
                        exact absurd H (by simp)
                    · rw [if_neg c61] at H
                      exact absurd H (by simp)
                  · rw [if_neg c60] at H
                    exact absurd H (by simp)
                · rw [if_neg c58] at H
                  have c58b0 : (a0 == 5) = false := beq_eq_false_iff_ne.mpr c58
                  have c58b1 : (a0 != 5) = true := bne_iff_ne.mpr c58
                  obtain ⟨y246, hy246⟩ : ∃ y_ : List Int, y_ = (([a1, a2] : List Int)) := ⟨_, rfl⟩
                  replace H : ((spec_MadeList.f kj26 6 y246).bind fun t249 => (some t249)) = some r := by first | (rw [hy246]; with_reducible exact H) | (have H2_ := (Option.bind_some _ _).symm.trans H; rw [hy246]; with_reducible exact H2_) | (have H2_ := (Option.bind_some _ _).symm.trans H; with_reducible exact H2_) | with_reducible exact H | (rw [hy246]; exact H) | exact H
                  have Ny246 := Aside0.mk hy246
                  clear hy246
                  replace H := Option.bind_eq_some_iff.mp H
                  obtain ⟨t249, A670, H⟩ := H
                  replace H : (some t249) = some r := H
                  have A67 := Aside0.mk A670
                  clear A670
                  obtain rfl := Option.some.inj H
                  go_wp2_with (first | ((with_reducible refine gate_dst (N := 73) rfl ?_); refine Kd.R_lit (Kd.int .i64) _ 2 ?hg (N := 73) ?hd (xs := ([a1, a2] : List Int)) (inner := [.int .i64 a1, .int .i64 a2]) (ok := fun _ => True) (okp := fun _ => True) ?hr ?hp (fun _ hk => hk) trivial (Below.refl _ _) (Nat.le_refl _) (by simp) ?_; (case hd => rfl); (case hg => rfl); (case hr => first | (go_simp; done) | (go_simp; rfl)); (case hp => exact (Reps.one (show Kd.M (Kd.int .i64) _ _ _ a1 [.int .i64 a1] from rfl) (Reps.one (show Kd.M (Kd.int .i64) _ _ _ a2 [.int .i64 a2] from rfl) (Reps.none _ _)))); intro v247 w68 ho69 hb hg_ hnew_; clear hg_ hnew_; (first | rw [← Ny246.out] at ho69 | (simp only [Int.reduceToNat] at ho69; rw [← Ny246.out] at ho69)); have n0_ := Aside0.mk (Kd.R_lower ho69 (below_size (by repeat (first | (with_reducible first | exact HB.out | apply below_alloc | apply Ext.below_bytes | apply pw_below_drewN | apply below_drew1) | exact HB.out)))); have n1_ := Aside0.mk (below_step (by repeat (first | (with_reducible first | exact HB.out | apply below_alloc | apply Ext.below_bytes | apply pw_below_drewN | apply below_drew1) | exact HB.out)) hb); clear HB; have HO248 := n0_; have HB := n1_; clear n0_ n1_; clear hb ho69; obtain ⟨Ao70, co70, eo70⟩ := Kd.R_slice HO248.out; subst eo70) | ((with_reducible refine gate_callee (f := 23) rfl ?_); refine goesL_ (some 74) rfl rfl Tryd.func23 (by kernel_rfl) rfl #[.int .i64 6, .slice Ao70 y246.length co70] rfl (by (try simp only [List.map_toArray, List.map_cons, List.map_nil]); first | done | rfl | (simp only [List.length_drop, List.length_take]; rfl) | (simp [Act.eval, *]; done)) ?_; (with_reducible refine (spec_MadeList.calls kj26 6 _ _ y246 t249 _ ?side1 ?side2 A67.out).mono ?_); (case side1 => repeat (first | exact (Kd.R_reads' HO248.out).2.2 | (with_reducible refine Kd.C_alloc ?_ _) | (with_reducible refine Kd.C_drewN ?_ _) | (with_reducible refine Kd.C_drew ?_))); (case side2 => exact (Kd.R_reads' HO248.out).2.1); rintro e w71 ⟨rfl, hb⟩; refine ⟨_, rfl, ?_⟩; have n0_ := Aside0.mk (Kd.R_below (by (with_reducible repeat (first | apply Kd.R_alloc | apply Ext.R_bytes | apply Kd.R_drewN | apply Kd.R_drew)); exact HO248.out) hb); have n1_ := Aside0.mk (below_step (by repeat (first | (with_reducible first | exact HB.out | apply below_alloc | apply Ext.below_bytes | apply pw_below_drewN | apply below_drew1) | exact HB.out)) hb); clear HO248; clear HB; have HO248 := n0_; have HB := n1_; clear n0_ n1_; (try clear hb); (try clear hb2); (try clear hk); (try clear hi)))
                  go_ret
                  exact ⟨by first | rfl | (simp [errW_none, errW_some] <;> rfl) | (simp [*, errW_none, errW_some] <;> rfl), by repeat (first | (with_reducible first | exact HB.out | apply below_alloc | apply Ext.below_bytes | apply pw_below_drewN | apply below_drew1) | exact HB.out)⟩

end Go.Proofs.YtplmmblofhhikaaDoor.PL
