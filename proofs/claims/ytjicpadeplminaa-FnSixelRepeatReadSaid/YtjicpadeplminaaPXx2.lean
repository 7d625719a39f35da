-- Written by wip/pp.py, a program of this session, out of the translation. Not trusted: Lean checks it.
import Derived.Test.YtjicpadeplminaaPXx0
import Derived.Test.YtjicpadeplminaaPXx1
namespace Go.Proofs.Ytjicpadeplminaa.PX
open Go.RowKit Go.Proofs.YtjicpadeplminaaW.PrintWords Go.Proofs.YtjicpadeplminaaW.PrintLast Go.Proofs.YtjicpadeplminaaW.PrintMore
attribute [local go_sem] max2_int min2_int max_two min_two max_three min_three max_four min_four   -- for this text's walks alone
attribute [local go_sem] Go.Proofs.Ytjicpadeplminaa.Ext.wrap64_mod256 Go.Proofs.Ytjicpadeplminaa.Ext.wrap64_mod32 Go.Proofs.Ytjicpadeplminaa.Ext.i64_mod256 Go.Proofs.Ytjicpadeplminaa.Ext.i64_mod32 Go.Proofs.Ytjicpadeplminaa.Ext.i64_u8 Go.Proofs.Ytjicpadeplminaa.Ext.w64_u8 Go.Proofs.Ytjicpadeplminaa.Ext.i64_u32 Go.Proofs.Ytjicpadeplminaa.Ext.w64_u32 
set_option linter.unusedVariables false
set_option linter.unusedSimpArgs false

/-! ### spec_SixelRepeatIn: function 10 -/
mutual
def spec_SixelRepeatIn.j0 : Nat → List Int → Int → Bool → Option (Int × Int × Int)
  | 0, _, _, _ => none
  | k + 1, x0, x2, x14 => if x14 = true then (some (0, 0, 0)) else (spec_SixelRepeatIn.l0 k x0 x2 1)
def spec_SixelRepeatIn.l0 : Nat → List Int → Int → Int → Option (Int × Int × Int)
  | 0, _, _, _ => none
  | k + 1, x0, x2, x5 => if x5 < (x0.length : Int) then (if 0 ≤ x5 then (if (rd x0 x5) < 48 then (some (x2, rd x0 x5, wrap64 (x5 + 1))) else (if (rd x0 x5) > 57 then (some (x2, rd x0 x5, wrap64 (x5 + 1))) else (spec_SixelRepeatIn.l0 k x0 (wrap64 ((wrap64 (x2 * 10)) + (((rd x0 x5) - 48) % 256))) (wrap64 (x5 + 1))))) else (none)) else (some (x2, 0, (x0.length : Int)))
end
def spec_SixelRepeatIn.f (k : Nat) (l0 : List Int) : Option (Int × Int × Int) := if (l0.length : Int) < 3 then (spec_SixelRepeatIn.j0 k l0 0 true) else (if 0 < (l0.length : Int) then (spec_SixelRepeatIn.j0 k l0 0 ((rd l0 0) != 33)) else (none))
theorem spec_SixelRepeatIn.mono_l : ∀ k, (∀ y0 y1 y2, LeO (spec_SixelRepeatIn.j0 k y0 y1 y2) (spec_SixelRepeatIn.j0 (k + 1) y0 y1 y2)) ∧ (∀ y0 y1 y2, LeO (spec_SixelRepeatIn.l0 k y0 y1 y2) (spec_SixelRepeatIn.l0 (k + 1) y0 y1 y2))
  | 0 => ⟨fun _ _ _ r h => by simp [spec_SixelRepeatIn.j0] at h, fun _ _ _ r h => by simp [spec_SixelRepeatIn.l0] at h⟩
  | k + 1 => by
    obtain ⟨ih0, ih1⟩ := spec_SixelRepeatIn.mono_l k
    refine ⟨?_, ?_⟩
    · intro y0 y1 y2
      unfold spec_SixelRepeatIn.j0
      repeat' first
      | (with_reducible exact ih0 _ _ _)
      | (with_reducible exact ih1 _ _ _)
      | (with_reducible exact LeO.refl _)
      | (with_reducible exact LeO.none _)
      | (with_reducible refine LeO.ite ?_ ?_)
      | (with_reducible refine LeO.bind ?_ (fun _ => ?_))
      | exact ih0 _ _ _
      | exact ih1 _ _ _
      | exact LeO.none _
      | refine LeO.ite ?_ ?_
      | refine LeO.bind ?_ (fun _ => ?_)
    · intro y0 y1 y2
      unfold spec_SixelRepeatIn.l0
      repeat' first
      | (with_reducible exact ih0 _ _ _)
      | (with_reducible exact ih1 _ _ _)
      | (with_reducible exact LeO.refl _)
      | (with_reducible exact LeO.none _)
      | (with_reducible refine LeO.ite ?_ ?_)
      | (with_reducible refine LeO.bind ?_ (fun _ => ?_))
      | exact ih0 _ _ _
      | exact ih1 _ _ _
      | exact LeO.none _
      | refine LeO.ite ?_ ?_
      | refine LeO.bind ?_ (fun _ => ?_)
theorem spec_SixelRepeatIn.mono : ∀ a0 k, LeO (spec_SixelRepeatIn.f k a0) (spec_SixelRepeatIn.f (k + 1) a0) := by
  intro a0 k
  obtain ⟨ih0, ih1⟩ := spec_SixelRepeatIn.mono_l k
  unfold spec_SixelRepeatIn.f
  repeat' first
      | (with_reducible exact ih0 _ _ _)
      | (with_reducible exact ih1 _ _ _)
      | (with_reducible exact LeO.refl _)
      | (with_reducible exact LeO.none _)
      | (with_reducible refine LeO.ite ?_ ?_)
      | (with_reducible refine LeO.bind ?_ (fun _ => ?_))
      | exact ih0 _ _ _
      | exact ih1 _ _ _
      | exact LeO.none _
      | refine LeO.ite ?_ ?_
      | refine LeO.bind ?_ (fun _ => ?_)
set_option maxHeartbeats 8000000 in
set_option maxRecDepth 100000 in
theorem spec_SixelRepeatIn.calls (k : Nat) (A0 : Option Addr) (c0 : Nat) (l0 : List Int) (r1 : Int) (r2 : Int) (r3 : Int) (w : World) (hr0 : Kd.C (Kd.int .u8) w A0 l0.length l0) (hc0 : l0.length ≤ c0) (h : spec_SixelRepeatIn.f k l0 = some (r1, r2, r3)) :
    Calls Try.prog 10 #[.slice A0 l0.length c0] w fun e w' => e = .returned (.tuple #[.int .i64 r1, .int .u8 r2, .int .i64 r3]) ∧ Drawn0 w w' := by
  have HR0 := Aside0.mk hr0
  have HC0 := Aside0.mk hc0
  clear hr0 hc0
  have H : (if (l0.length : Int) < 3 then (spec_SixelRepeatIn.j0 k l0 0 true) else (if 0 < (l0.length : Int) then (spec_SixelRepeatIn.j0 k l0 0 ((rd l0 0) != 33)) else (none))) = some (r1, r2, r3) := h
  clear h
  have HC2 := Aside0.mk H
  clear H
  go_enter Try.func10, Try.ntmps10
  go_upto_region 1 with (fail)
  repeat (go_quiet (fail); go_upto_region 1 with (fail))
  go_cut [14] (fun v14 wc => ∃ (kq : Nat) (x14_1 : Bool), v14 = .bool x14_1 ∧ Aside0 (spec_SixelRepeatIn.j0 kq l0 0 x14_1 = some (r1, r2, r3)) ∧ Aside0 (kq ≤ k) ∧ Drawn0 w wc)
  case first =>
    have H := HC2.out
    clear HC2
    by_cases c3 : (l0.length : Int) < 3
    · rw [if_pos c3] at H
      have c3b0 : decide ((l0.length : Int) < 3) = true := decide_eq_true c3
      have c3b1 : decide (l0.length < 3) = true := decide_eq_true (by omega)
      clear c3
      (first | rw [c3b0] | (simp only [i64_w, i32_w]; rw [c3b0]) | skip)
      have H' := Aside0.mk H
      clear H
      go_wp2
      repeat (go_quiet (fail); try go_wp2)
      go_meet
      case rel => exact ⟨_, (true), (by first | rfl | (simp; done) | (simp [*]; done)), H', ⟨by first | omega | exact Nat.le_refl _⟩, by repeat (first | exact Drawn0.refl _ | apply Drawn0.step)⟩
    · rw [if_neg c3] at H
      have c3b0 : decide ((l0.length : Int) < 3) = false := decide_eq_false c3
      have c3b1 : decide (l0.length < 3) = false := decide_eq_false (by omega)
      clear c3
      (first | rw [c3b0] | (simp only [i64_w, i32_w]; rw [c3b0]) | skip)
      by_cases c4 : 0 < (l0.length : Int)
      · rw [if_pos c4] at H
        have c4b0 : decide (0 < (l0.length : Int)) = true := decide_eq_true c4
        have c4b1 : decide (0 < l0.length) = true := decide_eq_true (by omega)
        clear c4
        have H' := Aside0.mk H
        clear H
        have p119 : 0 ≤ (0 : Int) := (by omega)
        have q119 : 0 < (l0.length : Int) := of_decide_eq_true (by first | (with_reducible assumption) | assumption)
        obtain ⟨ad119, e119, hx119_0⟩ := Kd.at_int HR0.out 0 p119 q119
        cases e119
        have qi119 : (0 < l0.length) = True := eq_true (by omega)
        (try rw [show ((0 : Int)).toNat = 0 from rfl] at hx119_0)
        (try rw [Addr.add_zero'] at hx119_0)
        replace p119 := eq_true p119
        replace q119 := eq_true q119
        go_wp2
        repeat (go_quiet (fail); try go_wp2)
        go_meet
        case rel => exact ⟨_, (((rd l0 0) != 33)), (by first | rfl | (simp; done) | (simp [*]; done)), H', ⟨by first | omega | exact Nat.le_refl _⟩, by repeat (first | exact Drawn0.refl _ | apply Drawn0.step)⟩
      · rw [if_neg c4] at H
        exact absurd H (by simp)
  case rest =>
    clear HC2
    try clear c1
    try clear p1
    try clear q1
    try clear hx1
    try clear qi1
    try clear p2
    try clear c3
    try clear c3b0
    try clear c3b1
    try clear c4
    try clear c4b0
    try clear c4b1
    try clear hx119_0
    try clear p119
    try clear q119
    obtain ⟨kq, x14_1, rfl, HA, HJ1, ⟨mc1, rfl⟩⟩ := hcut
    cases kq with
    | zero => exact absurd HA.out (by simp [spec_SixelRepeatIn.j0])
    | succ kj1 =>
      have H := HA.out
      clear HA
      simp only [spec_SixelRepeatIn.j0] at H
      by_cases c5 : x14_1 = true
      · subst c5
        have H1 : (some (0, 0, 0)) = some (r1, r2, r3) := by rw [if_pos rfl] at H; exact H
        clear H
        have H := H1
        clear H1
        simp only [Option.some.injEq, Prod.mk.injEq] at H
        obtain ⟨rfl, rfl, rfl⟩ := H
        go_wp2
        repeat (go_quiet (fail); try go_wp2)
        go_ret3
        exact ⟨by first | rfl | (simp; done) | (simp [*]; done), by repeat (first | exact Drawn0.refl _ | apply Drawn0.step)⟩
      · replace c5 := Bool.eq_false_iff.mpr c5
        subst c5
        have H1 : (spec_SixelRepeatIn.l0 kj1 l0 0 1) = some (r1, r2, r3) := by rw [if_neg (show ¬ (false = true) by decide)] at H; exact H
        clear H
        have H := H1
        clear H1
        have H' := Aside0.mk H
        clear H
        go_wp2
        repeat (go_quiet (fail); try go_wp2)
        go_loopg [2, 5] kj1 (fun kq v2 v5 w' => ∃ (x2_2 : Int) (x5_2 : Int), v2 = .int .i64 x2_2 ∧ v5 = .int .i64 x5_2 ∧ Aside0 (spec_SixelRepeatIn.l0 kq l0 x2_2 x5_2 = some (r1, r2, r3)) ∧ Aside0 (kq ≤ kj1) ∧ Drawn0 w w')
        case atStart => exact ⟨(0), (1), (by first | rfl | (simp; done) | (simp [*]; done)), (by first | rfl | (simp; done) | (simp [*]; done)), H', ⟨Nat.le_refl _⟩, by repeat (first | exact Drawn0.refl _ | apply Drawn0.step)⟩
        case round =>
          clear H'
          try clear c1
          try clear p1
          try clear q1
          try clear hx1
          try clear qi1
          try clear p2
          try clear c3
          try clear c3b0
          try clear c3b1
          try clear c4
          try clear c4b0
          try clear c4b1
          try clear c5
          try clear hx119_0
          try clear p1
          try clear p119
          try clear p2
          try clear q1
          try clear q119
          obtain ⟨x2_2, x5_2, rfl, rfl, HA, HK2, ⟨m2, rfl⟩⟩ := hrel
          cases gk with
          | zero => exact absurd HA.out (by simp [spec_SixelRepeatIn.l0])
          | succ k2 =>
            have H := HA.out
            clear HA
            simp only [spec_SixelRepeatIn.l0] at H
            by_cases c6 : x5_2 < (l0.length : Int)
            · rw [if_pos c6] at H
              have c6b0 : decide (x5_2 < (l0.length : Int)) = true := decide_eq_true c6
              clear c6
              by_cases c7 : 0 ≤ x5_2
              · rw [if_pos c7] at H
                have c7b0 : decide (0 ≤ x5_2) = true := decide_eq_true c7
                clear c7
                by_cases c8 : (rd l0 x5_2) < 48
                · rw [if_pos c8] at H
                  have c8b0 : decide ((rd l0 x5_2) < 48) = true := decide_eq_true c8
                  clear c8
                  simp only [Option.some.injEq, Prod.mk.injEq] at H
                  obtain ⟨rfl, rfl, rfl⟩ := H
                  have p120 : 0 ≤ (x5_2 : Int) := of_decide_eq_true (by first | (with_reducible assumption) | assumption)
                  have q120 : x5_2 < (l0.length : Int) := of_decide_eq_true (by first | (with_reducible assumption) | assumption)
                  obtain ⟨ad120, e120, hx120_0⟩ := Kd.at_int HR0.out x5_2 p120 q120
                  cases e120
                  replace p120 := eq_true p120
                  replace q120 := eq_true q120
                  have p121 : 0 ≤ (x5_2 : Int) := of_decide_eq_true (by first | (with_reducible assumption) | assumption)
                  have q121 : x5_2 < (l0.length : Int) := of_decide_eq_true (by first | (with_reducible assumption) | assumption)
                  obtain ⟨ad121, e121, hx121_0⟩ := Kd.at_int HR0.out x5_2 p121 q121
                  obtain rfl : ad120 = ad121 := (by injection e121)
                  replace p121 := eq_true p121
                  replace q121 := eq_true q121
                  go_wp2
                  repeat (go_quiet (fail); try go_wp2)
                  go_ret3
                  exact ⟨by first | rfl | (simp; done) | (simp [*]; done), by repeat (first | exact Drawn0.refl _ | apply Drawn0.step)⟩
                · rw [if_neg c8] at H
                  have c8b0 : decide ((rd l0 x5_2) < 48) = false := decide_eq_false c8
                  clear c8
                  by_cases c9 : (rd l0 x5_2) > 57
                  · rw [if_pos c9] at H
                    have c9b0 : decide (57 < (rd l0 x5_2)) = true := decide_eq_true c9
                    clear c9
                    simp only [Option.some.injEq, Prod.mk.injEq] at H
                    obtain ⟨rfl, rfl, rfl⟩ := H
                    have p120 : 0 ≤ (x5_2 : Int) := of_decide_eq_true (by first | (with_reducible assumption) | assumption)
                    have q120 : x5_2 < (l0.length : Int) := of_decide_eq_true (by first | (with_reducible assumption) | assumption)
                    obtain ⟨ad120, e120, hx120_0⟩ := Kd.at_int HR0.out x5_2 p120 q120
                    cases e120
                    replace p120 := eq_true p120
                    replace q120 := eq_true q120
                    have p122 : 0 ≤ (x5_2 : Int) := of_decide_eq_true (by first | (with_reducible assumption) | assumption)
                    have q122 : x5_2 < (l0.length : Int) := of_decide_eq_true (by first | (with_reducible assumption) | assumption)
                    obtain ⟨ad122, e122, hx122_0⟩ := Kd.at_int HR0.out x5_2 p122 q122
                    obtain rfl : ad120 = ad122 := (by injection e122)
                    replace p122 := eq_true p122
                    replace q122 := eq_true q122
                    have p123 : 0 ≤ (x5_2 : Int) := of_decide_eq_true (by first | (with_reducible assumption) | assumption)
                    have q123 : x5_2 < (l0.length : Int) := of_decide_eq_true (by first | (with_reducible assumption) | assumption)
                    obtain ⟨ad123, e123, hx123_0⟩ := Kd.at_int HR0.out x5_2 p123 q123
                    obtain rfl : ad120 = ad123 := (by injection e123)
                    replace p123 := eq_true p123
                    replace q123 := eq_true q123
                    go_wp2
                    repeat (go_quiet (fail); try go_wp2)
                    go_ret3
                    exact ⟨by first | rfl | (simp; done) | (simp [*]; done), by repeat (first | exact Drawn0.refl _ | apply Drawn0.step)⟩
                  · rw [if_neg c9] at H
                    have c9b0 : decide (57 < (rd l0 x5_2)) = false := decide_eq_false c9
                    clear c9
                    have H' := Aside0.mk H
                    clear H
                    have p120 : 0 ≤ (x5_2 : Int) := of_decide_eq_true (by first | (with_reducible assumption) | assumption)
                    have q120 : x5_2 < (l0.length : Int) := of_decide_eq_true (by first | (with_reducible assumption) | assumption)
                    obtain ⟨ad120, e120, hx120_0⟩ := Kd.at_int HR0.out x5_2 p120 q120
                    cases e120
                    replace p120 := eq_true p120
                    replace q120 := eq_true q120
                    have p122 : 0 ≤ (x5_2 : Int) := of_decide_eq_true (by first | (with_reducible assumption) | assumption)
                    have q122 : x5_2 < (l0.length : Int) := of_decide_eq_true (by first | (with_reducible assumption) | assumption)
                    obtain ⟨ad122, e122, hx122_0⟩ := Kd.at_int HR0.out x5_2 p122 q122
                    obtain rfl : ad120 = ad122 := (by injection e122)
                    replace p122 := eq_true p122
                    replace q122 := eq_true q122
                    have p124 : 0 ≤ (x5_2 : Int) := of_decide_eq_true (by first | (with_reducible assumption) | assumption)
                    have q124 : x5_2 < (l0.length : Int) := of_decide_eq_true (by first | (with_reducible assumption) | assumption)
                    obtain ⟨ad124, e124, hx124_0⟩ := Kd.at_int HR0.out x5_2 p124 q124
                    obtain rfl : ad120 = ad124 := (by injection e124)
                    replace p124 := eq_true p124
                    replace q124 := eq_true q124
                    go_wp2
                    repeat (go_quiet (fail); try go_wp2)
                    go_roundg k2
                    case measure => have := HJ1.out; have := HK2.out; omega
                    case rel => exact ⟨(wrap64 ((wrap64 (x2_2 * 10)) + (((rd l0 x5_2) - 48) % 256))), (wrap64 (x5_2 + 1)), (by first | rfl | (simp; done) | (simp [*]; done)), (by first | rfl | (simp; done) | (simp [*]; done)), H', ⟨by have := HJ1.out; have := HK2.out; omega⟩, by repeat (first | exact Drawn0.refl _ | apply Drawn0.step)⟩
              · rw [if_neg c7] at H
                exact absurd H (by simp)
            · rw [if_neg c6] at H
              have c6b0 : decide (x5_2 < (l0.length : Int)) = false := decide_eq_false c6
              clear c6
              simp only [Option.some.injEq, Prod.mk.injEq] at H
              obtain ⟨rfl, rfl, rfl⟩ := H
              go_wp2
              repeat (go_quiet (fail); try go_wp2)
              go_ret3
              exact ⟨by first | rfl | (simp; done) | (simp [*]; done), by repeat (first | exact Drawn0.refl _ | apply Drawn0.step)⟩

/-! ### laws_FnSixelRepeatRead: function 4 -/
def laws_FnSixelRepeatRead.j0 : Nat → List Int → Bool → Option (Bool)
  | 0, _, _ => none
  | k + 1, x0, x22 => if x22 = true then (some true) else (if ([] : List Int).length + x0.length < 140737488355328 then ((impl_DecodeRepeat.f k (([] : List Int) ++ x0)).bind fun bt129 => ((spec_SixelRepeatIn.f k x0).bind fun bt132 => ((impl_DecodeRepeat.f k ([33, 49, 50, 126] : List Int)).bind fun bt135 => (if bt129.1 = bt132.1 then (if bt129.2.1 = bt132.2.1 then (if bt129.2.2 = bt132.2.2 then (if bt135.1 = 12 then (if bt135.2.1 = 126 then (some (bt135.2.2 == 4)) else (some false)) else (some false)) else (some false)) else (some false)) else (some false))))) else (none))
def laws_FnSixelRepeatRead.f (k : Nat) (l0 : List Int) : Option (Bool) := if (l0.length : Int) > 2147483647 then (some true) else (if (l0.length : Int) > 200 then (laws_FnSixelRepeatRead.j0 k l0 true) else ((spec_FewDigits.f k l0).bind fun t125 => (laws_FnSixelRepeatRead.j0 k l0 (!t125))))
theorem laws_FnSixelRepeatRead.mono_l : ∀ k, (∀ y0 y1, LeO (laws_FnSixelRepeatRead.j0 k y0 y1) (laws_FnSixelRepeatRead.j0 (k + 1) y0 y1))
  | 0 => fun _ _ r h => by simp [laws_FnSixelRepeatRead.j0] at h
  | k + 1 => by
    have ih0 := laws_FnSixelRepeatRead.mono_l k
    · intro y0 y1
      unfold laws_FnSixelRepeatRead.j0
      repeat' first
      | (with_reducible exact ih0 _ _)
      | (with_reducible exact impl_DecodeRepeat.mono _ _)
      | (with_reducible exact spec_FewDigits.mono _ _)
      | (with_reducible exact spec_SixelRepeatIn.mono _ _)
      | (with_reducible exact LeO.refl _)
      | (with_reducible exact LeO.none _)
      | (with_reducible refine LeO.ite ?_ ?_)
      | (with_reducible refine LeO.bind ?_ (fun _ => ?_))
      | exact ih0 _ _
      | exact impl_DecodeRepeat.mono _ _
      | exact spec_FewDigits.mono _ _
      | exact spec_SixelRepeatIn.mono _ _
      | exact LeO.none _
      | refine LeO.ite ?_ ?_
      | refine LeO.bind ?_ (fun _ => ?_)
theorem laws_FnSixelRepeatRead.mono : ∀ a0 k, LeO (laws_FnSixelRepeatRead.f k a0) (laws_FnSixelRepeatRead.f (k + 1) a0) := by
  intro a0 k
  have ih0 := laws_FnSixelRepeatRead.mono_l k
  unfold laws_FnSixelRepeatRead.f
  repeat' first
      | (with_reducible exact ih0 _ _)
      | (with_reducible exact impl_DecodeRepeat.mono _ _)
      | (with_reducible exact spec_FewDigits.mono _ _)
      | (with_reducible exact spec_SixelRepeatIn.mono _ _)
      | (with_reducible exact LeO.refl _)
      | (with_reducible exact LeO.none _)
      | (with_reducible refine LeO.ite ?_ ?_)
      | (with_reducible refine LeO.bind ?_ (fun _ => ?_))
      | exact ih0 _ _
      | exact impl_DecodeRepeat.mono _ _
      | exact spec_FewDigits.mono _ _
      | exact spec_SixelRepeatIn.mono _ _
      | exact LeO.none _
      | refine LeO.ite ?_ ?_
      | refine LeO.bind ?_ (fun _ => ?_)
set_option maxHeartbeats 8000000 in
set_option maxRecDepth 100000 in
theorem laws_FnSixelRepeatRead.calls (k : Nat) (A0 : Option Addr) (c0 : Nat) (l0 : List Int) (r : Bool) (w : World) (hr0 : Kd.C (Kd.int .u8) w A0 l0.length l0) (hc0 : l0.length ≤ c0) (h : laws_FnSixelRepeatRead.f k l0 = some r) :
    Calls Try.prog 4 #[.slice A0 l0.length c0] w fun e w' => e = .returned (.bool r) ∧ Below w.heap.size w w' := by
  have kc_25 := fun (w : World) (C : Array Value) (n c : Nat) => Lib.run_convert_bytes_const (P := Try.prog) w 25 5 C n c Try.underlying25 Try.underlying5
  have kcn_25 := Go.Proofs.Ytjicpadeplminaa.Ext.conv_lit_drewN 25 5 Try.underlying25 Try.underlying5
  have kcd_25 := Go.Proofs.Ytjicpadeplminaa.Ext.conv_lit_drew 25 5 Try.underlying25 Try.underlying5
  have HR0 := Aside0.mk hr0
  have HC0 := Aside0.mk hc0
  clear hr0 hc0
  have HB := Aside0.mk (Below.refl w.heap.size w)
  have H : (if (l0.length : Int) > 2147483647 then (some true) else (if (l0.length : Int) > 200 then (laws_FnSixelRepeatRead.j0 k l0 true) else ((spec_FewDigits.f k l0).bind fun t125 => (laws_FnSixelRepeatRead.j0 k l0 (!t125))))) = some r := h
  clear h
  by_cases c2 : (l0.length : Int) > 2147483647
  · rw [if_pos c2] at H
    have c2b0 : decide (2147483647 < (l0.length : Int)) = true := decide_eq_true c2
    have c2b1 : decide (2147483647 < l0.length) = true := decide_eq_true (by omega)
    clear c2
    obtain rfl := Option.some.inj H
    go_enter Try.func4, Try.ntmps4
    go_wp2
    go_ret
    exact ⟨by first | rfl | (simp [errW_none, errW_some] <;> rfl) | (simp [*, errW_none, errW_some] <;> rfl), by repeat (first | (with_reducible first | exact HB.out | apply below_alloc | apply Go.Proofs.Ytjicpadeplminaa.Ext.below_bytes | apply pw_below_drewN | apply below_drew1) | exact HB.out)⟩
  · rw [if_neg c2] at H
    have c2b0 : decide (2147483647 < (l0.length : Int)) = false := decide_eq_false c2
    have c2b1 : decide (2147483647 < l0.length) = false := decide_eq_false (by omega)
    clear c2
    have HC3 := Aside0.mk H
    clear H
    go_enter Try.func4, Try.ntmps4
    go_upto_region 3 with (fail)
    go_cut [22] (fun v22 wc => ∃ (kq : Nat) (x22_2 : Bool), v22 = .bool x22_2 ∧ Aside0 (laws_FnSixelRepeatRead.j0 kq l0 x22_2 = some r) ∧ Aside0 (kq ≤ k) ∧ Aside0 (Below w.heap.size w wc))
    case first =>
      have H := HC3.out
      clear HC3
      by_cases c4 : (l0.length : Int) > 200
      · rw [if_pos c4] at H
        have c4b0 : decide (200 < (l0.length : Int)) = true := decide_eq_true c4
        have c4b1 : decide (200 < l0.length) = true := decide_eq_true (by omega)
        clear c4
        (first | rw [c4b0] | (simp only [i64_w, i32_w]; rw [c4b0]) | skip)
        have H' := Aside0.mk H
        clear H
        go_wp2
        go_meet
        case rel => exact ⟨_, (true), (by first | rfl | (simp; done) | (simp [*]; done)), H', ⟨by first | omega | exact Nat.le_refl _⟩, ⟨by repeat (first | (with_reducible first | exact HB.out | apply below_alloc | apply Go.Proofs.Ytjicpadeplminaa.Ext.below_bytes | apply pw_below_drewN | apply below_drew1) | exact HB.out)⟩⟩
      · rw [if_neg c4] at H
        have c4b0 : decide (200 < (l0.length : Int)) = false := decide_eq_false c4
        have c4b1 : decide (200 < l0.length) = false := decide_eq_false (by omega)
        clear c4
        (first | rw [c4b0] | (simp only [i64_w, i32_w]; rw [c4b0]) | skip)
        replace H := Option.bind_eq_some_iff.mp H
        obtain ⟨t125, A50, H⟩ := H
        replace H : (laws_FnSixelRepeatRead.j0 k l0 (!t125)) = some r := H
        have A5 := Aside0.mk A50
        clear A50
        have H' := Aside0.mk H
        clear H
        go_wp2_with (first | (go_at_call 8; (with_reducible refine (spec_FewDigits.calls k _ _ l0 t125 _ ?side1 ?side2 A5.out).mono ?_); (case side1 => repeat (first | exact (Kd.C_below HR0.out HB.out) | (with_reducible refine Kd.C_alloc ?_ _) | (with_reducible refine Kd.C_drewN ?_ _) | (with_reducible refine Kd.C_drew ?_))); (case side2 => exact HC0.out); rintro e w' ⟨rfl, ⟨nd, rfl⟩⟩))
        go_meet
        case rel => exact ⟨_, (!t125), (by first | rfl | (simp; done) | (simp [*]; done)), H', ⟨by first | omega | exact Nat.le_refl _⟩, ⟨by repeat (first | (with_reducible first | exact HB.out | apply below_alloc | apply Go.Proofs.Ytjicpadeplminaa.Ext.below_bytes | apply pw_below_drewN | apply below_drew1) | exact HB.out)⟩⟩
    case rest =>
      clear HC3
      try clear c2
      try clear c2b0
      try clear c2b1
      try clear p2
      try clear c4
      try clear c4b0
      try clear c4b1
      obtain ⟨kq, x22_2, rfl, HA, HJ2, HB⟩ := hcut
      cases kq with
      | zero => exact absurd HA.out (by simp [laws_FnSixelRepeatRead.j0])
      | succ kj2 =>
        have H := HA.out
        clear HA
        simp only [laws_FnSixelRepeatRead.j0] at H
        by_cases c6 : x22_2 = true
        · subst c6
          have H1 : (some true) = some r := by rw [if_pos rfl] at H; exact H
          clear H
          have H := H1
          clear H1
          obtain rfl := Option.some.inj H
          go_wp2
          go_ret
          exact ⟨by first | rfl | (simp [errW_none, errW_some] <;> rfl) | (simp [*, errW_none, errW_some] <;> rfl), by repeat (first | (with_reducible first | exact HB.out | apply below_alloc | apply Go.Proofs.Ytjicpadeplminaa.Ext.below_bytes | apply pw_below_drewN | apply below_drew1) | exact HB.out)⟩
        · replace c6 := Bool.eq_false_iff.mpr c6
          subst c6
          have H1 : (if ([] : List Int).length + l0.length < 140737488355328 then ((impl_DecodeRepeat.f kj2 (([] : List Int) ++ l0)).bind fun bt129 => ((spec_SixelRepeatIn.f kj2 l0).bind fun bt132 => ((impl_DecodeRepeat.f kj2 ([33, 49, 50, 126] : List Int)).bind fun bt135 => (if bt129.1 = bt132.1 then (if bt129.2.1 = bt132.2.1 then (if bt129.2.2 = bt132.2.2 then (if bt135.1 = 12 then (if bt135.2.1 = 126 then (some (bt135.2.2 == 4)) else (some false)) else (some false)) else (some false)) else (some false)) else (some false))))) else (none)) = some r := by rw [if_neg (show ¬ (false = true) by decide)] at H; exact H
          clear H
          have H := H1
          clear H1
          by_cases c7 : ([] : List Int).length + l0.length < 140737488355328
          · rw [if_pos c7] at H
            have LMc7 := Aside0.mk c7
            clear c7
            obtain ⟨y126, hy126⟩ : ∃ y_ : List Int, y_ = (([] : List Int) ++ l0) := ⟨_, rfl⟩
            replace H : ((impl_DecodeRepeat.f kj2 y126).bind fun bt129 => ((spec_SixelRepeatIn.f kj2 l0).bind fun bt132 => ((impl_DecodeRepeat.f kj2 ([33, 49, 50, 126] : List Int)).bind fun bt135 => (if bt129.1 = bt132.1 then (if bt129.2.1 = bt132.2.1 then (if bt129.2.2 = bt132.2.2 then (if bt135.1 = 12 then (if bt135.2.1 = 126 then (some (bt135.2.2 == 4)) else (some false)) else (some false)) else (some false)) else (some false)) else (some false))))) = some r := by first | (rw [hy126]; with_reducible exact H) | (have H2_ := (Option.bind_some _ _).symm.trans H; rw [hy126]; with_reducible exact H2_) | (have H2_ := (Option.bind_some _ _).symm.trans H; with_reducible exact H2_) | with_reducible exact H | (rw [hy126]; exact H) | exact H
            have Ny126 := Aside0.mk hy126
            clear hy126
            replace H := Option.bind_eq_some_iff.mp H
            obtain ⟨⟨t129, t130, t131⟩, A80, H⟩ := H
            replace H : ((spec_SixelRepeatIn.f kj2 l0).bind fun bt132 => ((impl_DecodeRepeat.f kj2 ([33, 49, 50, 126] : List Int)).bind fun bt135 => (if t129 = bt132.1 then (if t130 = bt132.2.1 then (if t131 = bt132.2.2 then (if bt135.1 = 12 then (if bt135.2.1 = 126 then (some (bt135.2.2 == 4)) else (some false)) else (some false)) else (some false)) else (some false)) else (some false)))) = some r := H
            have A8 := Aside0.mk A80
            clear A80
            replace H := Option.bind_eq_some_iff.mp H
            obtain ⟨⟨t132, t133, t134⟩, A90, H⟩ := H
            replace H : ((impl_DecodeRepeat.f kj2 ([33, 49, 50, 126] : List Int)).bind fun bt135 => (if t129 = t132 then (if t130 = t133 then (if t131 = t134 then (if bt135.1 = 12 then (if bt135.2.1 = 126 then (some (bt135.2.2 == 4)) else (some false)) else (some false)) else (some false)) else (some false)) else (some false))) = some r := H
            have A9 := Aside0.mk A90
            clear A90
            replace H := Option.bind_eq_some_iff.mp H
            obtain ⟨⟨t135, t136, t137⟩, A100, H⟩ := H
            replace H : (if t129 = t132 then (if t130 = t133 then (if t131 = t134 then (if t135 = 12 then (if t136 = 126 then (some (t137 == 4)) else (some false)) else (some false)) else (some false)) else (some false)) else (some false)) = some r := H
            have A10 := Aside0.mk A100
            clear A100
            by_cases c11 : t129 = t132
            · rw [if_pos c11] at H
              have c11b0 : (t129 == t132) = true := beq_iff_eq.mpr c11
              have c11b1 : (t129 != t132) = false := bne_eq_false_iff_eq.mpr c11
              clear c11
              by_cases c12 : t130 = t133
              · rw [if_pos c12] at H
                have c12b0 : (t130 == t133) = true := beq_iff_eq.mpr c12
                have c12b1 : (t130 != t133) = false := bne_eq_false_iff_eq.mpr c12
                clear c12
                by_cases c13 : t131 = t134
                · rw [if_pos c13] at H
                  have c13b0 : (t131 == t134) = true := beq_iff_eq.mpr c13
                  have c13b1 : (t131 != t134) = false := bne_eq_false_iff_eq.mpr c13
                  clear c13
                  by_cases c14 : t135 = 12
                  · rw [if_pos c14] at H
                    have c14b0 : (t135 == 12) = true := beq_iff_eq.mpr c14
                    have c14b1 : (t135 != 12) = false := bne_eq_false_iff_eq.mpr c14
                    clear c14
                    by_cases c15 : t136 = 126
                    · rw [if_pos c15] at H
                      have c15b0 : (t136 == 126) = true := beq_iff_eq.mpr c15
                      have c15b1 : (t136 != 126) = false := bne_eq_false_iff_eq.mpr c15
                      clear c15
                      obtain rfl := Option.some.inj H
                      go_wp2_with (first | ((with_reducible refine gate_builtin (b := .append) (xs := #[.const (.slice none 0 0), .tmp 24]) rfl ?_); at_builtin; refine Kd.R_append_rows (Kd.int .u8) (w0 := w) w.heap.size rfl (.const (.slice none 0 0)) (.tmp 24) 25 5 (.int .u8 0) 1 rfl Try.underlying25 info5 rfl (by decide) (by omega) (.slice none 0 0) ([] : List Int) l0 _ _ _ (fun _ => True) (fun _ => False) rfl rfl ?aO ?aR (fun _ _ h => h) (fun _ h => h.elim) ?aF ?aB ?aS ?aL ?_; (case aR => repeat (first | exact (Kd.C_below HR0.out HB.out) | (with_reducible refine Kd.C_alloc ?_ _) | (with_reducible refine Kd.C_drewN ?_ _) | (with_reducible refine Kd.C_drew ?_))); (case aB => exact (by repeat (first | (with_reducible first | exact HB.out | apply below_alloc | apply Go.Proofs.Ytjicpadeplminaa.Ext.below_bytes | apply pw_below_drewN | apply below_drew1) | exact HB.out))); (case aF => exact (fun _ _ => trivial)); (case aO => exact ((Kd.R_nil _ _ _ _ (fun _ => True)))); (case aS => exact (below_size (by repeat (first | (with_reducible first | exact HB.out | apply below_alloc | apply Go.Proofs.Ytjicpadeplminaa.Ext.below_bytes | apply pw_below_drewN | apply below_drew1) | exact HB.out)))); (case aL => have := LMc7.out; omega); intro v127 w16 ho hb hg hat; rw [← Ny126.out] at ho; have n0_ := Aside0.mk (hb); have n1_ := Aside0.mk (ho); clear HB; have HB := n0_; have HO128 := n1_; clear n0_ n1_; clear ho hb hg hat; obtain ⟨Ao17, co17, eo17⟩ := Kd.R_slice HO128.out; subst eo17) | ((with_reducible refine gate_callee (f := 9) rfl ?_); refine goesL_ (some 26) rfl rfl Try.func9 (by kernel_rfl) rfl #[.slice Ao17 y126.length co17] rfl (by (try simp only [List.map_toArray, List.map_cons, List.map_nil]); first | done | rfl | (simp only [List.length_drop, List.length_take]; rfl) | (simp [Act.eval, *]; done)) ?_; (with_reducible refine (impl_DecodeRepeat.calls kj2 _ _ y126 t129 t130 t131 _ ?side1 ?side2 A8.out).mono ?_); (case side1 => repeat (first | exact (Kd.R_reads' HO128.out).2.2 | (with_reducible refine Kd.C_alloc ?_ _) | (with_reducible refine Kd.C_drewN ?_ _) | (with_reducible refine Kd.C_drew ?_))); (case side2 => exact (Kd.R_reads' HO128.out).2.1); rintro e w18 ⟨rfl, hb⟩; refine ⟨_, rfl, ?_⟩; have n0_ := Aside0.mk (Kd.R_below (by (with_reducible repeat (first | apply Kd.R_alloc | apply Go.Proofs.Ytjicpadeplminaa.Ext.R_bytes | apply Kd.R_drewN | apply Kd.R_drew)); exact HO128.out) hb); have n1_ := Aside0.mk (below_step (by repeat (first | (with_reducible first | exact HB.out | apply below_alloc | apply Go.Proofs.Ytjicpadeplminaa.Ext.below_bytes | apply pw_below_drewN | apply below_drew1) | exact HB.out)) hb); clear HO128; clear HB; have HO128 := n0_; have HB := n1_; clear n0_ n1_; (try clear hb); (try clear hb2); (try clear hk); (try clear hi)) | ((with_reducible refine gate_callee (f := 10) rfl ?_); refine goesL_ (some 32) rfl rfl Try.func10 (by kernel_rfl) rfl #[.slice A0 l0.length c0] rfl (by (try simp only [List.map_toArray, List.map_cons, List.map_nil]); first | done | rfl | (simp only [List.length_drop, List.length_take]; rfl) | (simp [Act.eval, *]; done)) ?_; (with_reducible refine (spec_SixelRepeatIn.calls kj2 _ _ l0 t132 t133 t134 _ ?side1 ?side2 A9.out).mono ?_); (case side1 => repeat (first | exact (Kd.C_below HR0.out HB.out) | (with_reducible refine Kd.C_alloc ?_ _) | (with_reducible refine Kd.C_drewN ?_ _) | (with_reducible refine Kd.C_drew ?_))); (case side2 => exact HC0.out); rintro e w' ⟨rfl, ⟨nd, rfl⟩⟩; refine ⟨_, rfl, ?_⟩) | (go_at_call 9; (refine (impl_DecodeRepeat.calls kj2 _ _ ([33, 49, 50, 126] : List Int) t135 t136 t137 _ ?side1 ?side2 A10.out).mono ?_); (case side1 => exact Go.Proofs.Ytjicpadeplminaa.Ext.C_lit _ ([33, 49, 50, 126] : List Int) _ _ _ rfl (by decide)); (case side2 => exact (by decide)); rintro e w19 ⟨rfl, hb⟩; have n0_ := Aside0.mk (Kd.R_below (by (with_reducible repeat (first | apply Kd.R_alloc | apply Go.Proofs.Ytjicpadeplminaa.Ext.R_bytes | apply Kd.R_drewN | apply Kd.R_drew)); exact HO128.out) hb); have n1_ := Aside0.mk (below_step (by repeat (first | (with_reducible first | exact HB.out | apply below_alloc | apply Go.Proofs.Ytjicpadeplminaa.Ext.below_bytes | apply pw_below_drewN | apply below_drew1) | exact HB.out)) hb); clear HO128; clear HB; have HO128 := n0_; have HB := n1_; clear n0_ n1_; (try clear hb); (try clear hb2); (try clear hk); (try clear hi)))
                      go_ret
                      exact ⟨by first | rfl | (simp [errW_none, errW_some] <;> rfl) | (simp [*, errW_none, errW_some] <;> rfl), by repeat (first | (with_reducible first | exact HB.out | apply below_alloc | apply Go.Proofs.Ytjicpadeplminaa.Ext.below_bytes | apply pw_below_drewN | apply below_drew1) | exact HB.out)⟩
                    · rw [if_neg c15] at H
                      have c15b0 : (t136 == 126) = false := beq_eq_false_iff_ne.mpr c15
                      have c15b1 : (t136 != 126) = true := bne_iff_ne.mpr c15
                      obtain rfl := Option.some.inj H
                      go_wp2_with (first | ((with_reducible refine gate_builtin (b := .append) (xs := #[.const (.slice none 0 0), .tmp 24]) rfl ?_); at_builtin; refine Kd.R_append_rows (Kd.int .u8) (w0 := w) w.heap.size rfl (.const (.slice none 0 0)) (.tmp 24) 25 5 (.int .u8 0) 1 rfl Try.underlying25 info5 rfl (by decide) (by omega) (.slice none 0 0) ([] : List Int) l0 _ _ _ (fun _ => True) (fun _ => False) rfl rfl ?aO ?aR (fun _ _ h => h) (fun _ h => h.elim) ?aF ?aB ?aS ?aL ?_; (case aR => repeat (first | exact (Kd.C_below HR0.out HB.out) | (with_reducible refine Kd.C_alloc ?_ _) | (with_reducible refine Kd.C_drewN ?_ _) | (with_reducible refine Kd.C_drew ?_))); (case aB => exact (by repeat (first | (with_reducible first | exact HB.out | apply below_alloc | apply Go.Proofs.Ytjicpadeplminaa.Ext.below_bytes | apply pw_below_drewN | apply below_drew1) | exact HB.out))); (case aF => exact (fun _ _ => trivial)); (case aO => exact ((Kd.R_nil _ _ _ _ (fun _ => True)))); (case aS => exact (below_size (by repeat (first | (with_reducible first | exact HB.out | apply below_alloc | apply Go.Proofs.Ytjicpadeplminaa.Ext.below_bytes | apply pw_below_drewN | apply below_drew1) | exact HB.out)))); (case aL => have := LMc7.out; omega); intro v127 w20 ho hb hg hat; rw [← Ny126.out] at ho; have n0_ := Aside0.mk (hb); have n1_ := Aside0.mk (ho); clear HB; have HB := n0_; have HO128 := n1_; clear n0_ n1_; clear ho hb hg hat; obtain ⟨Ao21, co21, eo21⟩ := Kd.R_slice HO128.out; subst eo21) | ((with_reducible refine gate_callee (f := 9) rfl ?_); refine goesL_ (some 26) rfl rfl Try.func9 (by kernel_rfl) rfl #[.slice Ao21 y126.length co21] rfl (by (try simp only [List.map_toArray, List.map_cons, List.map_nil]); first | done | rfl | (simp only [List.length_drop, List.length_take]; rfl) | (simp [Act.eval, *]; done)) ?_; (with_reducible refine (impl_DecodeRepeat.calls kj2 _ _ y126 t129 t130 t131 _ ?side1 ?side2 A8.out).mono ?_); (case side1 => repeat (first | exact (Kd.R_reads' HO128.out).2.2 | (with_reducible refine Kd.C_alloc ?_ _) | (with_reducible refine Kd.C_drewN ?_ _) | (with_reducible refine Kd.C_drew ?_))); (case side2 => exact (Kd.R_reads' HO128.out).2.1); rintro e w22 ⟨rfl, hb⟩; refine ⟨_, rfl, ?_⟩; have n0_ := Aside0.mk (Kd.R_below (by (with_reducible repeat (first | apply Kd.R_alloc | apply Go.Proofs.Ytjicpadeplminaa.Ext.R_bytes | apply Kd.R_drewN | apply Kd.R_drew)); exact HO128.out) hb); have n1_ := Aside0.mk (below_step (by repeat (first | (with_reducible first | exact HB.out | apply below_alloc | apply Go.Proofs.Ytjicpadeplminaa.Ext.below_bytes | apply pw_below_drewN | apply below_drew1) | exact HB.out)) hb); clear HO128; clear HB; have HO128 := n0_; have HB := n1_; clear n0_ n1_; (try clear hb); (try clear hb2); (try clear hk); (try clear hi)) | ((with_reducible refine gate_callee (f := 10) rfl ?_); refine goesL_ (some 32) rfl rfl Try.func10 (by kernel_rfl) rfl #[.slice A0 l0.length c0] rfl (by (try simp only [List.map_toArray, List.map_cons, List.map_nil]); first | done | rfl | (simp only [List.length_drop, List.length_take]; rfl) | (simp [Act.eval, *]; done)) ?_; (with_reducible refine (spec_SixelRepeatIn.calls kj2 _ _ l0 t132 t133 t134 _ ?side1 ?side2 A9.out).mono ?_); (case side1 => repeat (first | exact (Kd.C_below HR0.out HB.out) | (with_reducible refine Kd.C_alloc ?_ _) | (with_reducible refine Kd.C_drewN ?_ _) | (with_reducible refine Kd.C_drew ?_))); (case side2 => exact HC0.out); rintro e w' ⟨rfl, ⟨nd, rfl⟩⟩; refine ⟨_, rfl, ?_⟩) | (go_at_call 9; (refine (impl_DecodeRepeat.calls kj2 _ _ ([33, 49, 50, 126] : List Int) t135 t136 t137 _ ?side1 ?side2 A10.out).mono ?_); (case side1 => exact Go.Proofs.Ytjicpadeplminaa.Ext.C_lit _ ([33, 49, 50, 126] : List Int) _ _ _ rfl (by decide)); (case side2 => exact (by decide)); rintro e w23 ⟨rfl, hb⟩; have n0_ := Aside0.mk (Kd.R_below (by (with_reducible repeat (first | apply Kd.R_alloc | apply Go.Proofs.Ytjicpadeplminaa.Ext.R_bytes | apply Kd.R_drewN | apply Kd.R_drew)); exact HO128.out) hb); have n1_ := Aside0.mk (below_step (by repeat (first | (with_reducible first | exact HB.out | apply below_alloc | apply Go.Proofs.Ytjicpadeplminaa.Ext.below_bytes | apply pw_below_drewN | apply below_drew1) | exact HB.out)) hb); clear HO128; clear HB; have HO128 := n0_; have HB := n1_; clear n0_ n1_; (try clear hb); (try clear hb2); (try clear hk); (try clear hi)))
                      go_ret
                      exact ⟨by first | rfl | (simp [errW_none, errW_some] <;> rfl) | (simp [*, errW_none, errW_some] <;> rfl), by repeat (first | (with_reducible first | exact HB.out | apply below_alloc | apply Go.Proofs.Ytjicpadeplminaa.Ext.below_bytes | apply pw_below_drewN | apply below_drew1) | exact HB.out)⟩
                  · rw [if_neg c14] at H
                    have c14b0 : (t135 == 12) = false := beq_eq_false_iff_ne.mpr c14
                    have c14b1 : (t135 != 12) = true := bne_iff_ne.mpr c14
                    obtain rfl := Option.some.inj H
                    go_wp2_with (first | ((with_reducible refine gate_builtin (b := .append) (xs := #[.const (.slice none 0 0), .tmp 24]) rfl ?_); at_builtin; refine Kd.R_append_rows (Kd.int .u8) (w0 := w) w.heap.size rfl (.const (.slice none 0 0)) (.tmp 24) 25 5 (.int .u8 0) 1 rfl Try.underlying25 info5 rfl (by decide) (by omega) (.slice none 0 0) ([] : List Int) l0 _ _ _ (fun _ => True) (fun _ => False) rfl rfl ?aO ?aR (fun _ _ h => h) (fun _ h => h.elim) ?aF ?aB ?aS ?aL ?_; (case aR => repeat (first | exact (Kd.C_below HR0.out HB.out) | (with_reducible refine Kd.C_alloc ?_ _) | (with_reducible refine Kd.C_drewN ?_ _) | (with_reducible refine Kd.C_drew ?_))); (case aB => exact (by repeat (first | (with_reducible first | exact HB.out | apply below_alloc | apply Go.Proofs.Ytjicpadeplminaa.Ext.below_bytes | apply pw_below_drewN | apply below_drew1) | exact HB.out))); (case aF => exact (fun _ _ => trivial)); (case aO => exact ((Kd.R_nil _ _ _ _ (fun _ => True)))); (case aS => exact (below_size (by repeat (first | (with_reducible first | exact HB.out | apply below_alloc | apply Go.Proofs.Ytjicpadeplminaa.Ext.below_bytes | apply pw_below_drewN | apply below_drew1) | exact HB.out)))); (case aL => have := LMc7.out; omega); intro v127 w24 ho hb hg hat; rw [← Ny126.out] at ho; have n0_ := Aside0.mk (hb); have n1_ := Aside0.mk (ho); clear HB; have HB := n0_; have HO128 := n1_; clear n0_ n1_; clear ho hb hg hat; obtain ⟨Ao25, co25, eo25⟩ := Kd.R_slice HO128.out; subst eo25) | ((with_reducible refine gate_callee (f := 9) rfl ?_); refine goesL_ (some 26) rfl rfl Try.func9 (by kernel_rfl) rfl #[.slice Ao25 y126.length co25] rfl (by (try simp only [List.map_toArray, List.map_cons, List.map_nil]); first | done | rfl | (simp only [List.length_drop, List.length_take]; rfl) | (simp [Act.eval, *]; done)) ?_; (with_reducible refine (impl_DecodeRepeat.calls kj2 _ _ y126 t129 t130 t131 _ ?side1 ?side2 A8.out).mono ?_); (case side1 => repeat (first | exact (Kd.R_reads' HO128.out).2.2 | (with_reducible refine Kd.C_alloc ?_ _) | (with_reducible refine Kd.C_drewN ?_ _) | (with_reducible refine Kd.C_drew ?_))); (case side2 => exact (Kd.R_reads' HO128.out).2.1); rintro e w26 ⟨rfl, hb⟩; refine ⟨_, rfl, ?_⟩; have n0_ := Aside0.mk (Kd.R_below (by (with_reducible repeat (first | apply Kd.R_alloc | apply Go.Proofs.Ytjicpadeplminaa.Ext.R_bytes | apply Kd.R_drewN | apply Kd.R_drew)); exact HO128.out) hb); have n1_ := Aside0.mk (below_step (by repeat (first | (with_reducible first | exact HB.out | apply below_alloc | apply Go.Proofs.Ytjicpadeplminaa.Ext.below_bytes | apply pw_below_drewN | apply below_drew1) | exact HB.out)) hb); clear HO128; clear HB; have HO128 := n0_; have HB := n1_; clear n0_ n1_; (try clear hb); (try clear hb2); (try clear hk); (try clear hi)) | ((with_reducible refine gate_callee (f := 10) rfl ?_); refine goesL_ (some 32) rfl rfl Try.func10 (by kernel_rfl) rfl #[.slice A0 l0.length c0] rfl (by (try simp only [List.map_toArray, List.map_cons, List.map_nil]); first | done | rfl | (simp only [List.length_drop, List.length_take]; rfl) | (simp [Act.eval, *]; done)) ?_; (with_reducible refine (spec_SixelRepeatIn.calls kj2 _ _ l0 t132 t133 t134 _ ?side1 ?side2 A9.out).mono ?_); (case side1 => repeat (first | exact (Kd.C_below HR0.out HB.out) | (with_reducible refine Kd.C_alloc ?_ _) | (with_reducible refine Kd.C_drewN ?_ _) | (with_reducible refine Kd.C_drew ?_))); (case side2 => exact HC0.out); rintro e w' ⟨rfl, ⟨nd, rfl⟩⟩; refine ⟨_, rfl, ?_⟩) | (go_at_call 9; (refine (impl_DecodeRepeat.calls kj2 _ _ ([33, 49, 50, 126] : List Int) t135 t136 t137 _ ?side1 ?side2 A10.out).mono ?_); (case side1 => exact Go.Proofs.Ytjicpadeplminaa.Ext.C_lit _ ([33, 49, 50, 126] : List Int) _ _ _ rfl (by decide)); (case side2 => exact (by decide)); rintro e w27 ⟨rfl, hb⟩; have n0_ := Aside0.mk (Kd.R_below (by (with_reducible repeat (first | apply Kd.R_alloc | apply Go.Proofs.Ytjicpadeplminaa.Ext.R_bytes | apply Kd.R_drewN | apply Kd.R_drew)); exact HO128.out) hb); have n1_ := Aside0.mk (below_step (by repeat (first | (with_reducible first | exact HB.out | apply below_alloc | apply Go.Proofs.Ytjicpadeplminaa.Ext.below_bytes | apply pw_below_drewN | apply below_drew1) | exact HB.out)) hb); clear HO128; clear HB; have HO128 := n0_; have HB := n1_; clear n0_ n1_; (try clear hb); (try clear hb2); (try clear hk); (try clear hi)))
                    go_ret
                    exact ⟨by first | rfl | (simp [errW_none, errW_some] <;> rfl) | (simp [*, errW_none, errW_some] <;> rfl), by repeat (first | (with_reducible first | exact HB.out | apply below_alloc | apply Go.Proofs.Ytjicpadeplminaa.Ext.below_bytes | apply pw_below_drewN | apply below_drew1) | exact HB.out)⟩
                · rw [if_neg c13] at H
                  have c13b0 : (t131 == t134) = false := beq_eq_false_iff_ne.mpr c13
                  have c13b1 : (t131 != t134) = true := bne_iff_ne.mpr c13
                  obtain rfl := Option.some.inj H
                  go_wp2_with (first | ((with_reducible refine gate_builtin (b := .append) (xs := #[.const (.slice none 0 0), .tmp 24]) rfl ?_); at_builtin; refine Kd.R_append_rows (Kd.int .u8) (w0 := w) w.heap.size rfl (.const (.slice none 0 0)) (.tmp 24) 25 5 (.int .u8 0) 1 rfl Try.underlying25 info5 rfl (by decide) (by omega) (.slice none 0 0) ([] : List Int) l0 _ _ _ (fun _ => True) (fun _ => False) rfl rfl ?aO ?aR (fun _ _ h => h) (fun _ h => h.elim) ?aF ?aB ?aS ?aL ?_; (case aR => repeat (first | exact (Kd.C_below HR0.out HB.out) | (with_reducible refine Kd.C_alloc ?_ _) | (with_reducible refine Kd.C_drewN ?_ _) | (with_reducible refine Kd.C_drew ?_))); (case aB => exact (by repeat (first | (with_reducible first | exact HB.out | apply below_alloc | apply Go.Proofs.Ytjicpadeplminaa.Ext.below_bytes | apply pw_below_drewN | apply below_drew1) | exact HB.out))); (case aF => exact (fun _ _ => trivial)); (case aO => exact ((Kd.R_nil _ _ _ _ (fun _ => True)))); (case aS => exact (below_size (by repeat (first | (with_reducible first | exact HB.out | apply below_alloc | apply Go.Proofs.Ytjicpadeplminaa.Ext.below_bytes | apply pw_below_drewN | apply below_drew1) | exact HB.out)))); (case aL => have := LMc7.out; omega); intro v127 w28 ho hb hg hat; rw [← Ny126.out] at ho; have n0_ := Aside0.mk (hb); have n1_ := Aside0.mk (ho); clear HB; have HB := n0_; have HO128 := n1_; clear n0_ n1_; clear ho hb hg hat; obtain ⟨Ao29, co29, eo29⟩ := Kd.R_slice HO128.out; subst eo29) | ((with_reducible refine gate_callee (f := 9) rfl ?_); refine goesL_ (some 26) rfl rfl Try.func9 (by kernel_rfl) rfl #[.slice Ao29 y126.length co29] rfl (by (try simp only [List.map_toArray, List.map_cons, List.map_nil]); first | done | rfl | (simp only [List.length_drop, List.length_take]; rfl) | (simp [Act.eval, *]; done)) ?_; (with_reducible refine (impl_DecodeRepeat.calls kj2 _ _ y126 t129 t130 t131 _ ?side1 ?side2 A8.out).mono ?_); (case side1 => repeat (first | exact (Kd.R_reads' HO128.out).2.2 | (with_reducible refine Kd.C_alloc ?_ _) | (with_reducible refine Kd.C_drewN ?_ _) | (with_reducible refine Kd.C_drew ?_))); (case side2 => exact (Kd.R_reads' HO128.out).2.1); rintro e w30 ⟨rfl, hb⟩; refine ⟨_, rfl, ?_⟩; have n0_ := Aside0.mk (Kd.R_below (by (with_reducible repeat (first | apply Kd.R_alloc | apply Go.Proofs.Ytjicpadeplminaa.Ext.R_bytes | apply Kd.R_drewN | apply Kd.R_drew)); exact HO128.out) hb); have n1_ := Aside0.mk (below_step (by repeat (first | (with_reducible first | exact HB.out | apply below_alloc | apply Go.Proofs.Ytjicpadeplminaa.Ext.below_bytes | apply pw_below_drewN | apply below_drew1) | exact HB.out)) hb); clear HO128; clear HB; have HO128 := n0_; have HB := n1_; clear n0_ n1_; (try clear hb); (try clear hb2); (try clear hk); (try clear hi)) | ((with_reducible refine gate_callee (f := 10) rfl ?_); refine goesL_ (some 32) rfl rfl Try.func10 (by kernel_rfl) rfl #[.slice A0 l0.length c0] rfl (by (try simp only [List.map_toArray, List.map_cons, List.map_nil]); first | done | rfl | (simp only [List.length_drop, List.length_take]; rfl) | (simp [Act.eval, *]; done)) ?_; (with_reducible refine (spec_SixelRepeatIn.calls kj2 _ _ l0 t132 t133 t134 _ ?side1 ?side2 A9.out).mono ?_); (case side1 => repeat (first | exact (Kd.C_below HR0.out HB.out) | (with_reducible refine Kd.C_alloc ?_ _) | (with_reducible refine Kd.C_drewN ?_ _) | (with_reducible refine Kd.C_drew ?_))); (case side2 => exact HC0.out); rintro e w' ⟨rfl, ⟨nd, rfl⟩⟩; refine ⟨_, rfl, ?_⟩) | (go_at_call 9; (refine (impl_DecodeRepeat.calls kj2 _ _ ([33, 49, 50, 126] : List Int) t135 t136 t137 _ ?side1 ?side2 A10.out).mono ?_); (case side1 => exact Go.Proofs.Ytjicpadeplminaa.Ext.C_lit _ ([33, 49, 50, 126] : List Int) _ _ _ rfl (by decide)); (case side2 => exact (by decide)); rintro e w31 ⟨rfl, hb⟩; have n0_ := Aside0.mk (Kd.R_below (by (with_reducible repeat (first | apply Kd.R_alloc | apply Go.Proofs.Ytjicpadeplminaa.Ext.R_bytes | apply Kd.R_drewN | apply Kd.R_drew)); exact HO128.out) hb); have n1_ := Aside0.mk (below_step (by repeat (first | (with_reducible first | exact HB.out | apply below_alloc | apply Go.Proofs.Ytjicpadeplminaa.Ext.below_bytes | apply pw_below_drewN | apply below_drew1) | exact HB.out)) hb); clear HO128; clear HB; have HO128 := n0_; have HB := n1_; clear n0_ n1_; (try clear hb); (try clear hb2); (try clear hk); (try clear hi)))
                  go_ret
                  exact ⟨by first | rfl | (simp [errW_none, errW_some] <;> rfl) | (simp [*, errW_none, errW_some] <;> rfl), by repeat (first | (with_reducible first | exact HB.out | apply below_alloc | apply Go.Proofs.Ytjicpadeplminaa.Ext.below_bytes | apply pw_below_drewN | apply below_drew1) | exact HB.out)⟩
              · rw [if_neg c12] at H
                have c12b0 : (t130 == t133) = false := beq_eq_false_iff_ne.mpr c12
                have c12b1 : (t130 != t133) = true := bne_iff_ne.mpr c12
                obtain rfl := Option.some.inj H
                go_wp2_with (first | ((with_reducible refine gate_builtin (b := .append) (xs := #[.const (.slice none 0 0), .tmp 24]) rfl ?_); at_builtin; refine Kd.R_append_rows (Kd.int .u8) (w0 := w) w.heap.size rfl (.const (.slice none 0 0)) (.tmp 24) 25 5 (.int .u8 0) 1 rfl Try.underlying25 info5 rfl (by decide) (by omega) (.slice none 0 0) ([] : List Int) l0 _ _ _ (fun _ => True) (fun _ => False) rfl rfl ?aO ?aR (fun _ _ h => h) (fun _ h => h.elim) ?aF ?aB ?aS ?aL ?_; (case aR => repeat (first | exact (Kd.C_below HR0.out HB.out) | (with_reducible refine Kd.C_alloc ?_ _) | (with_reducible refine Kd.C_drewN ?_ _) | (with_reducible refine Kd.C_drew ?_))); (case aB => exact (by repeat (first | (with_reducible first | exact HB.out | apply below_alloc | apply Go.Proofs.Ytjicpadeplminaa.Ext.below_bytes | apply pw_below_drewN | apply below_drew1) | exact HB.out))); (case aF => exact (fun _ _ => trivial)); (case aO => exact ((Kd.R_nil _ _ _ _ (fun _ => True)))); (case aS => exact (below_size (by repeat (first | (with_reducible first | exact HB.out | apply below_alloc | apply Go.Proofs.Ytjicpadeplminaa.Ext.below_bytes | apply pw_below_drewN | apply below_drew1) | exact HB.out)))); (case aL => have := LMc7.out; omega); intro v127 w32 ho hb hg hat; rw [← Ny126.out] at ho; have n0_ := Aside0.mk (hb); have n1_ := Aside0.mk (ho); clear HB; have HB := n0_; have HO128 := n1_; clear n0_ n1_; clear ho hb hg hat; obtain ⟨Ao33, co33, eo33⟩ := Kd.R_slice HO128.out; subst eo33) | ((with_reducible refine gate_callee (f := 9) rfl ?_); refine goesL_ (some 26) rfl rfl Try.func9 (by kernel_rfl) rfl #[.slice Ao33 y126.length co33] rfl (by (try simp only [List.map_toArray, List.map_cons, List.map_nil]); first | done | rfl | (simp only [List.length_drop, List.length_take]; rfl) | (simp [Act.eval, *]; done)) ?_; (with_reducible refine (impl_DecodeRepeat.calls kj2 _ _ y126 t129 t130 t131 _ ?side1 ?side2 A8.out).mono ?_); (case side1 => repeat (first | exact (Kd.R_reads' HO128.out).2.2 | (with_reducible refine Kd.C_alloc ?_ _) | (with_reducible refine Kd.C_drewN ?_ _) | (with_reducible refine Kd.C_drew ?_))); (case side2 => exact (Kd.R_reads' HO128.out).2.1); rintro e w34 ⟨rfl, hb⟩; refine ⟨_, rfl, ?_⟩; have n0_ := Aside0.mk (Kd.R_below (by (with_reducible repeat (first | apply Kd.R_alloc | apply Go.Proofs.Ytjicpadeplminaa.Ext.R_bytes | apply Kd.R_drewN | apply Kd.R_drew)); exact HO128.out) hb); have n1_ := Aside0.mk (below_step (by repeat (first | (with_reducible first | exact HB.out | apply below_alloc | apply Go.Proofs.Ytjicpadeplminaa.Ext.below_bytes | apply pw_below_drewN | apply below_drew1) | exact HB.out)) hb); clear HO128; clear HB; have HO128 := n0_; have HB := n1_; clear n0_ n1_; (try clear hb); (try clear hb2); (try clear hk); (try clear hi)) | ((with_reducible refine gate_callee (f := 10) rfl ?_); refine goesL_ (some 32) rfl rfl Try.func10 (by kernel_rfl) rfl #[.slice A0 l0.length c0] rfl (by (try simp only [List.map_toArray, List.map_cons, List.map_nil]); first | done | rfl | (simp only [List.length_drop, List.length_take]; rfl) | (simp [Act.eval, *]; done)) ?_; (with_reducible refine (spec_SixelRepeatIn.calls kj2 _ _ l0 t132 t133 t134 _ ?side1 ?side2 A9.out).mono ?_); (case side1 => repeat (first | exact (Kd.C_below HR0.out HB.out) | (with_reducible refine Kd.C_alloc ?_ _) | (with_reducible refine Kd.C_drewN ?_ _) | (with_reducible refine Kd.C_drew ?_))); (case side2 => exact HC0.out); rintro e w' ⟨rfl, ⟨nd, rfl⟩⟩; refine ⟨_, rfl, ?_⟩) | (go_at_call 9; (refine (impl_DecodeRepeat.calls kj2 _ _ ([33, 49, 50, 126] : List Int) t135 t136 t137 _ ?side1 ?side2 A10.out).mono ?_); (case side1 => exact Go.Proofs.Ytjicpadeplminaa.Ext.C_lit _ ([33, 49, 50, 126] : List Int) _ _ _ rfl (by decide)); (case side2 => exact (by decide)); rintro e w35 ⟨rfl, hb⟩; have n0_ := Aside0.mk (Kd.R_below (by (with_reducible repeat (first | apply Kd.R_alloc | apply Go.Proofs.Ytjicpadeplminaa.Ext.R_bytes | apply Kd.R_drewN | apply Kd.R_drew)); exact HO128.out) hb); have n1_ := Aside0.mk (below_step (by repeat (first | (with_reducible first | exact HB.out | apply below_alloc | apply Go.Proofs.Ytjicpadeplminaa.Ext.below_bytes | apply pw_below_drewN | apply below_drew1) | exact HB.out)) hb); clear HO128; clear HB; have HO128 := n0_; have HB := n1_; clear n0_ n1_; (try clear hb); (try clear hb2); (try clear hk); (try clear hi)))
                go_ret
                exact ⟨by first | rfl | (simp [errW_none, errW_some] <;> rfl) | (simp [*, errW_none, errW_some] <;> rfl), by repeat (first | (with_reducible first | exact HB.out | apply below_alloc | apply Go.Proofs.Ytjicpadeplminaa.Ext.below_bytes | apply pw_below_drewN | apply below_drew1) | exact HB.out)⟩
            · rw [if_neg c11] at H
              have c11b0 : (t129 == t132) = false := beq_eq_false_iff_ne.mpr c11
              have c11b1 : (t129 != t132) = true := bne_iff_ne.mpr c11
              obtain rfl := Option.some.inj H
              go_wp2_with (first | ((with_reducible refine gate_builtin (b := .append) (xs := #[.const (.slice none 0 0), .tmp 24]) rfl ?_); at_builtin; refine Kd.R_append_rows (Kd.int .u8) (w0 := w) w.heap.size rfl (.const (.slice none 0 0)) (.tmp 24) 25 5 (.int .u8 0) 1 rfl Try.underlying25 info5 rfl (by decide) (by omega) (.slice none 0 0) ([] : List Int) l0 _ _ _ (fun _ => True) (fun _ => False) rfl rfl ?aO ?aR (fun _ _ h => h) (fun _ h => h.elim) ?aF ?aB ?aS ?aL ?_; (case aR => repeat (first | exact (Kd.C_below HR0.out HB.out) | (with_reducible refine Kd.C_alloc ?_ _) | (with_reducible refine Kd.C_drewN ?_ _) | (with_reducible refine Kd.C_drew ?_))); (case aB => exact (by repeat (first | (with_reducible first | exact HB.out | apply below_alloc | apply Go.Proofs.Ytjicpadeplminaa.Ext.below_bytes | apply pw_below_drewN | apply below_drew1) | exact HB.out))); (case aF => exact (fun _ _ => trivial)); (case aO => exact ((Kd.R_nil _ _ _ _ (fun _ => True)))); (case aS => exact (below_size (by repeat (first | (with_reducible first | exact HB.out | apply below_alloc | apply Go.Proofs.Ytjicpadeplminaa.Ext.below_bytes | apply pw_below_drewN | apply below_drew1) | exact HB.out)))); (case aL => have := LMc7.out; omega); intro v127 w36 ho hb hg hat; rw [← Ny126.out] at ho; have n0_ := Aside0.mk (hb); have n1_ := Aside0.mk (ho); clear HB; have HB := n0_; have HO128 := n1_; clear n0_ n1_; clear ho hb hg hat; obtain ⟨Ao37, co37, eo37⟩ := Kd.R_slice HO128.out; subst eo37) | ((with_reducible refine gate_callee (f := 9) rfl ?_); refine goesL_ (some 26) rfl rfl Try.func9 (by kernel_rfl) rfl #[.slice Ao37 y126.length co37] rfl (by (try simp only [List.map_toArray, List.map_cons, List.map_nil]); first | done | rfl | (simp only [List.length_drop, List.length_take]; rfl) | (simp [Act.eval, *]; done)) ?_; (with_reducible refine (impl_DecodeRepeat.calls kj2 _ _ y126 t129 t130 t131 _ ?side1 ?side2 A8.out).mono ?_); (case side1 => repeat (first | exact (Kd.R_reads' HO128.out).2.2 | (with_reducible refine Kd.C_alloc ?_ _) | (with_reducible refine Kd.C_drewN ?_ _) | (with_reducible refine Kd.C_drew ?_))); (case side2 => exact (Kd.R_reads' HO128.out).2.1); rintro e w38 ⟨rfl, hb⟩; refine ⟨_, rfl, ?_⟩; have n0_ := Aside0.mk (Kd.R_below (by (with_reducible repeat (first | apply Kd.R_alloc | apply Go.Proofs.Ytjicpadeplminaa.Ext.R_bytes | apply Kd.R_drewN | apply Kd.R_drew)); exact HO128.out) hb); have n1_ := Aside0.mk (below_step (by repeat (first | (with_reducible first | exact HB.out | apply below_alloc | apply Go.Proofs.Ytjicpadeplminaa.Ext.below_bytes | apply pw_below_drewN | apply below_drew1) | exact HB.out)) hb); clear HO128; clear HB; have HO128 := n0_; have HB := n1_; clear n0_ n1_; (try clear hb); (try clear hb2); (try clear hk); (try clear hi)) | ((with_reducible refine gate_callee (f := 10) rfl ?_); refine goesL_ (some 32) rfl rfl Try.func10 (by kernel_rfl) rfl #[.slice A0 l0.length c0] rfl (by (try simp only [List.map_toArray, List.map_cons, List.map_nil]); first | done | rfl | (simp only [List.length_drop, List.length_take]; rfl) | (simp [Act.eval, *]; done)) ?_; (with_reducible refine (spec_SixelRepeatIn.calls kj2 _ _ l0 t132 t133 t134 _ ?side1 ?side2 A9.out).mono ?_); (case side1 => repeat (first | exact (Kd.C_below HR0.out HB.out) | (with_reducible refine Kd.C_alloc ?_ _) | (with_reducible refine Kd.C_drewN ?_ _) | (with_reducible refine Kd.C_drew ?_))); (case side2 => exact HC0.out); rintro e w' ⟨rfl, ⟨nd, rfl⟩⟩; refine ⟨_, rfl, ?_⟩) | (go_at_call 9; (refine (impl_DecodeRepeat.calls kj2 _ _ ([33, 49, 50, 126] : List Int) t135 t136 t137 _ ?side1 ?side2 A10.out).mono ?_); (case side1 => exact Go.Proofs.Ytjicpadeplminaa.Ext.C_lit _ ([33, 49, 50, 126] : List Int) _ _ _ rfl (by decide)); (case side2 => exact (by decide)); rintro e w39 ⟨rfl, hb⟩; have n0_ := Aside0.mk (Kd.R_below (by (with_reducible repeat (first | apply Kd.R_alloc | apply Go.Proofs.Ytjicpadeplminaa.Ext.R_bytes | apply Kd.R_drewN | apply Kd.R_drew)); exact HO128.out) hb); have n1_ := Aside0.mk (below_step (by repeat (first | (with_reducible first | exact HB.out | apply below_alloc | apply Go.Proofs.Ytjicpadeplminaa.Ext.below_bytes | apply pw_below_drewN | apply below_drew1) | exact HB.out)) hb); clear HO128; clear HB; have HO128 := n0_; have HB := n1_; clear n0_ n1_; (try clear hb); (try clear hb2); (try clear hk); (try clear hi)))
              go_ret
              exact ⟨by first | rfl | (simp [errW_none, errW_some] <;> rfl) | (simp [*, errW_none, errW_some] <;> rfl), by repeat (first | (with_reducible first | exact HB.out | apply below_alloc | apply Go.Proofs.Ytjicpadeplminaa.Ext.below_bytes | apply pw_below_drewN | apply below_drew1) | exact HB.out)⟩
          · rw [if_neg c7] at H
            exact absurd H (by simp)

/-- THE ONE PURE STATEMENT of laws_FnSixelRepeatRead: yours. -/
def laws_FnSixelRepeatRead.Pure : Prop := ∀ (l0 : List Int), l0.length ≤ maxLen → l0.length * 1 ≤ 140737488351232 → (∀ x ∈ l0, (Lit.int .u8 x).wf = true) → ∃ k, laws_FnSixelRepeatRead.f k l0 = some true
theorem laws_FnSixelRepeatRead.walk (P : laws_FnSixelRepeatRead.Pure) (a0 : Option Addr) (len0 cap0 : Nat) (z0 : List Int) (w : World) (w0 : (a0 = none ∧ len0 = 0 ∧ cap0 = 0 ∧ z0 = []) ∨ ∃ x, a0 = some x ∧ len0 ≤ cap0 ∧ cap0 ≤ maxLen ∧ z0.length = cap0 ∧ (∀ i, i < z0.length → w.cell? (x.add i) = some (.int .u8 (z0.getD i 0))) ∧ ∀ n ∈ z0, (Lit.int .u8 n).wf = true) (y0 : len0 * 1 ≤ 140737488351232) :
    Calls Try.prog 4 #[.slice a0 len0 cap0] w fun e w' => e = .returned (.bool true) ∧ Below w.heap.size w w' := by
  obtain ⟨l0, rfl, hr0, hm0, hw0, hc0⟩ := ReadsInt.ofRowC w0
  obtain ⟨k, h⟩ := P l0 hm0 y0 hw0
  refine (laws_FnSixelRepeatRead.calls k _ _ l0 true w (Kd.C_of_reads (d := (0 : Int)) (h1 := fun _ => rfl) hr0) hc0 h).mono ?_
  rintro e w' ⟨rfl, hd⟩
  exact ⟨rfl, hd⟩

-- NOT PRINTED: function 18 (sixel_DecodeRaster)

-- NOT PRINTED: function 11 (impl_DecodeRaster)

end Go.Proofs.Ytjicpadeplminaa.PX
