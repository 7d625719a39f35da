-- Written by wip/pp.py, a program of this session, out of the translation. Not trusted: Lean checks it.
import Derived.Test.YtmpmfdghdaofhaaDoorPKx0
namespace Go.Proofs.YtmpmfdghdaofhaaDoor.PK
open Go.RowKit Go.Proofs.YtmpmfdghdaofhaaDoorW.PrintWords Go.Proofs.YtmpmfdghdaofhaaDoorW.PrintLast Go.Proofs.YtmpmfdghdaofhaaDoorW.PrintMore
attribute [local go_sem] max2_int min2_int max_two min_two max_three min_three max_four min_four   -- for this text's walks alone
attribute [local go_sem] Go.Proofs.YtmpmfdghdaofhaaDoor.Ext.wrap64_mod256 Go.Proofs.YtmpmfdghdaofhaaDoor.Ext.wrap64_mod32 Go.Proofs.YtmpmfdghdaofhaaDoor.Ext.i64_mod256 Go.Proofs.YtmpmfdghdaofhaaDoor.Ext.i64_mod32 Go.Proofs.YtmpmfdghdaofhaaDoor.Ext.i64_u8 Go.Proofs.YtmpmfdghdaofhaaDoor.Ext.w64_u8 Go.Proofs.YtmpmfdghdaofhaaDoor.Ext.i64_u32 Go.Proofs.YtmpmfdghdaofhaaDoor.Ext.w64_u32 
set_option linter.unusedVariables false
set_option linter.unusedSimpArgs false

/-! ### spec_within: function 21 -/
def spec_within.f (a0 : Int) (a1 : Int) (a2 : Int) : Option (Bool) := if a1 ≤ a0 then (some (decide (a0 ≤ a2))) else (some false)
set_option maxHeartbeats 8000000 in
set_option maxRecDepth 100000 in
theorem spec_within.calls (a0 : Int) (a1 : Int) (a2 : Int) (r : Bool) (w : World) (h : spec_within.f a0 a1 a2 = some r) :
    Calls Tryd.prog 21 #[.int .u8 a0, .int .u8 a1, .int .u8 a2] w fun e w' => e = .returned (.bool r) ∧ Drawn0 w w' := by
  have H : (if a1 ≤ a0 then (some (decide (a0 ≤ a2))) else (some false)) = some r := h
  clear h
  by_cases c4 : a1 ≤ a0
  · rw [if_pos c4] at H
    have c4b0 : decide (a1 ≤ a0) = true := decide_eq_true c4
    clear c4
    obtain rfl := Option.some.inj H
    go_enter Tryd.func21, Tryd.ntmps21
    go_wp2
    go_ret
    exact ⟨by first | rfl | (simp; done) | (simp [*]; done), by repeat (first | exact Drawn0.refl _ | apply Drawn0.step)⟩
  · rw [if_neg c4] at H
    have c4b0 : decide (a1 ≤ a0) = false := decide_eq_false c4
    clear c4
    obtain rfl := Option.some.inj H
    go_enter Tryd.func21, Tryd.ntmps21
    go_wp2
    go_ret
    exact ⟨by first | rfl | (simp; done) | (simp [*]; done), by repeat (first | exact Drawn0.refl _ | apply Drawn0.step)⟩

/-! ### spec_anywhere: function 22 -/
def spec_anywhere.j0 : Nat → Int → Bool → Option (Int × Int × Bool)
  | 0, _, _ => none
  | k + 1, x0, x5 => if x5 = true then (some (0, 5, true)) else (if x0 = 27 then (some (8, 1, true)) else (if x0 < 128 then (some (0, 0, false)) else (if x0 = 144 then (some (4, 1, true)) else (if x0 = 152 then (some (11, 6, true)) else (if x0 = 155 then (some (1, 1, true)) else (if x0 = 157 then (some (10, 6, true)) else (if x0 = 158 then (some (12, 6, true)) else (if x0 = 159 then (some (13, 6, true)) else (if x0 < 160 then (some (0, 5, true)) else ((spec_within.f x0 194 244).bind fun t101 => (if t101 = true then (some (14, 2, true)) else (some (0, 0, true)))))))))))))
def spec_anywhere.f (k : Nat) (a0 : Int) : Option (Int × Int × Bool) := if a0 = 24 then (spec_anywhere.j0 k a0 true) else (spec_anywhere.j0 k a0 (a0 == 26))
theorem spec_anywhere.mono_l : ∀ k, (∀ y0 y1, LeO (spec_anywhere.j0 k y0 y1) (spec_anywhere.j0 (k + 1) y0 y1))
  | 0 => fun _ _ r h => by simp [spec_anywhere.j0] at h
  | k + 1 => by
    have ih0 := spec_anywhere.mono_l k
    · intro y0 y1
      unfold spec_anywhere.j0
      repeat' first
      | (with_reducible exact ih0 _ _)
      | (with_reducible exact LeO.refl _)
      | (with_reducible exact LeO.none _)
      | (with_reducible refine LeO.ite ?_ ?_)
      | (with_reducible refine LeO.bind ?_ (fun _ => ?_))
      | exact ih0 _ _
      | exact LeO.none _
      | refine LeO.ite ?_ ?_
      | refine LeO.bind ?_ (fun _ => ?_)
theorem spec_anywhere.mono : ∀ a0 k, LeO (spec_anywhere.f k a0) (spec_anywhere.f (k + 1) a0) := by
  intro a0 k
  have ih0 := spec_anywhere.mono_l k
  unfold spec_anywhere.f
  repeat' first
      | (with_reducible exact ih0 _ _)
      | (with_reducible exact LeO.refl _)
      | (with_reducible exact LeO.none _)
      | (with_reducible refine LeO.ite ?_ ?_)
      | (with_reducible refine LeO.bind ?_ (fun _ => ?_))
      | exact ih0 _ _
      | exact LeO.none _
      | refine LeO.ite ?_ ?_
      | refine LeO.bind ?_ (fun _ => ?_)
set_option maxHeartbeats 8000000 in
set_option maxRecDepth 100000 in
theorem spec_anywhere.calls (k : Nat) (a0 : Int) (r1 : Int) (r2 : Int) (r3 : Bool) (w : World) (h : spec_anywhere.f k a0 = some (r1, r2, r3)) :
    Calls Tryd.prog 22 #[.int .u8 a0] w fun e w' => e = .returned (.tuple #[.int .i64 r1, .int .i64 r2, .bool r3]) ∧ Drawn0 w w' := by
  have H : (if a0 = 24 then (spec_anywhere.j0 k a0 true) else (spec_anywhere.j0 k a0 (a0 == 26))) = some (r1, r2, r3) := h
  clear h
  have HC2 := Aside0.mk H
  clear H
  go_enter Tryd.func22, Tryd.ntmps22
  go_upto_region 1 with (fail)
  go_cut [5] (fun v5 wc => ∃ (kq : Nat) (x5_1 : Bool), v5 = .bool x5_1 ∧ Aside0 (spec_anywhere.j0 kq a0 x5_1 = some (r1, r2, r3)) ∧ Aside0 (kq ≤ k) ∧ Drawn0 w wc)
  case first =>
    have H := HC2.out
    clear HC2
    by_cases c3 : a0 = 24
    · rw [if_pos c3] at H
      have c3b0 : (a0 == 24) = true := beq_iff_eq.mpr c3
      have c3b1 : (a0 != 24) = false := bne_eq_false_iff_eq.mpr c3
      clear c3
      (first | rw [c3b0] | (simp only [i64_w, i32_w]; rw [c3b0]) | skip)
      have H' := Aside0.mk H
      clear H
      go_wp2
      go_meet
      case rel => exact ⟨_, (true), (by first | rfl | (simp; done) | (simp [*]; done)), H', ⟨by first | omega | exact Nat.le_refl _⟩, by repeat (first | exact Drawn0.refl _ | apply Drawn0.step)⟩
    · rw [if_neg c3] at H
      have c3b0 : (a0 == 24) = false := beq_eq_false_iff_ne.mpr c3
      have c3b1 : (a0 != 24) = true := bne_iff_ne.mpr c3
      (first | rw [c3b0] | (simp only [i64_w, i32_w]; rw [c3b0]) | skip)
      have H' := Aside0.mk H
      clear H
      go_wp2
      go_meet
      case rel => exact ⟨_, ((a0 == 26)), (by first | rfl | (simp; done) | (simp [*]; done)), H', ⟨by first | omega | exact Nat.le_refl _⟩, by repeat (first | exact Drawn0.refl _ | apply Drawn0.step)⟩
  case rest =>
    clear HC2
    try clear c2
    try clear p2
    try clear c3
    try clear c3b0
    try clear c3b1
    obtain ⟨kq, x5_1, rfl, HA, HJ1, ⟨mc1, rfl⟩⟩ := hcut
    cases kq with
    | zero => exact absurd HA.out (by simp [spec_anywhere.j0])
    | succ kj1 =>
      have H := HA.out
      clear HA
      simp only [spec_anywhere.j0] at H
      by_cases c4 : x5_1 = true
      · subst c4
        have H1 : (some (0, 5, true)) = some (r1, r2, r3) := by rw [if_pos rfl] at H; exact H
        clear H
        have H := H1
        clear H1
        simp only [Option.some.injEq, Prod.mk.injEq] at H
        obtain ⟨rfl, rfl, rfl⟩ := H
        go_wp2
        go_ret3
        exact ⟨by first | rfl | (simp; done) | (simp [*]; done), by repeat (first | exact Drawn0.refl _ | apply Drawn0.step)⟩
      · replace c4 := Bool.eq_false_iff.mpr c4
        subst c4
        have H1 : (if a0 = 27 then (some (8, 1, true)) else (if a0 < 128 then (some (0, 0, false)) else (if a0 = 144 then (some (4, 1, true)) else (if a0 = 152 then (some (11, 6, true)) else (if a0 = 155 then (some (1, 1, true)) else (if a0 = 157 then (some (10, 6, true)) else (if a0 = 158 then (some (12, 6, true)) else (if a0 = 159 then (some (13, 6, true)) else (if a0 < 160 then (some (0, 5, true)) else ((spec_within.f a0 194 244).bind fun t101 => (if t101 = true then (some (14, 2, true)) else (some (0, 0, true))))))))))))) = some (r1, r2, r3) := by rw [if_neg (show ¬ (false = true) by decide)] at H; exact H
        clear H
        have H := H1
        clear H1
        by_cases c5 : a0 = 27
        · rw [if_pos c5] at H
          have c5b0 : (a0 == 27) = true := beq_iff_eq.mpr c5
          have c5b1 : (a0 != 27) = false := bne_eq_false_iff_eq.mpr c5
          clear c5
          simp only [Option.some.injEq, Prod.mk.injEq] at H
          obtain ⟨rfl, rfl, rfl⟩ := H
          go_wp2
          go_ret3
          exact ⟨by first | rfl | (simp; done) | (simp [*]; done), by repeat (first | exact Drawn0.refl _ | apply Drawn0.step)⟩
        · rw [if_neg c5] at H
          have c5b0 : (a0 == 27) = false := beq_eq_false_iff_ne.mpr c5
          have c5b1 : (a0 != 27) = true := bne_iff_ne.mpr c5
          by_cases c6 : a0 < 128
          · rw [if_pos c6] at H
            have c6b0 : decide (a0 < 128) = true := decide_eq_true c6
            clear c6
            simp only [Option.some.injEq, Prod.mk.injEq] at H
            obtain ⟨rfl, rfl, rfl⟩ := H
            go_wp2
            go_ret3
            exact ⟨by first | rfl | (simp; done) | (simp [*]; done), by repeat (first | exact Drawn0.refl _ | apply Drawn0.step)⟩
          · rw [if_neg c6] at H
            have c6b0 : decide (a0 < 128) = false := decide_eq_false c6
            clear c6
            by_cases c7 : a0 = 144
            · rw [if_pos c7] at H
              have c7b0 : (a0 == 144) = true := beq_iff_eq.mpr c7
              have c7b1 : (a0 != 144) = false := bne_eq_false_iff_eq.mpr c7
              clear c7
              simp only [Option.some.injEq, Prod.mk.injEq] at H
              obtain ⟨rfl, rfl, rfl⟩ := H
              go_wp2
              go_ret3
              exact ⟨by first | rfl | (simp; done) | (simp [*]; done), by repeat (first | exact Drawn0.refl _ | apply Drawn0.step)⟩
            · rw [if_neg c7] at H
              have c7b0 : (a0 == 144) = false := beq_eq_false_iff_ne.mpr c7
              have c7b1 : (a0 != 144) = true := bne_iff_ne.mpr c7
              by_cases c8 : a0 = 152
              · rw [if_pos c8] at H
                have c8b0 : (a0 == 152) = true := beq_iff_eq.mpr c8
                have c8b1 : (a0 != 152) = false := bne_eq_false_iff_eq.mpr c8
                clear c8
                simp only [Option.some.injEq, Prod.mk.injEq] at H
                obtain ⟨rfl, rfl, rfl⟩ := H
                go_wp2
                go_ret3
                exact ⟨by first | rfl | (simp; done) | (simp [*]; done), by repeat (first | exact Drawn0.refl _ | apply Drawn0.step)⟩
              · rw [if_neg c8] at H
                have c8b0 : (a0 == 152) = false := beq_eq_false_iff_ne.mpr c8
                have c8b1 : (a0 != 152) = true := bne_iff_ne.mpr c8
                by_cases c9 : a0 = 155
                · rw [if_pos c9] at H
                  have c9b0 : (a0 == 155) = true := beq_iff_eq.mpr c9
                  have c9b1 : (a0 != 155) = false := bne_eq_false_iff_eq.mpr c9
                  clear c9
                  simp only [Option.some.injEq, Prod.mk.injEq] at H
                  obtain ⟨rfl, rfl, rfl⟩ := H
                  go_wp2
                  go_ret3
                  exact ⟨by first | rfl | (simp; done) | (simp [*]; done), by repeat (first | exact Drawn0.refl _ | apply Drawn0.step)⟩
                · rw [if_neg c9] at H
                  have c9b0 : (a0 == 155) = false := beq_eq_false_iff_ne.mpr c9
                  have c9b1 : (a0 != 155) = true := bne_iff_ne.mpr c9
                  by_cases c10 : a0 = 157
                  · rw [if_pos c10] at H
                    have c10b0 : (a0 == 157) = true := beq_iff_eq.mpr c10
                    have c10b1 : (a0 != 157) = false := bne_eq_false_iff_eq.mpr c10
                    clear c10
                    simp only [Option.some.injEq, Prod.mk.injEq] at H
                    obtain ⟨rfl, rfl, rfl⟩ := H
                    go_wp2
                    go_ret3
                    exact ⟨by first | rfl | (simp; done) | (simp [*]; done), by repeat (first | exact Drawn0.refl _ | apply Drawn0.step)⟩
                  · rw [if_neg c10] at H
                    have c10b0 : (a0 == 157) = false := beq_eq_false_iff_ne.mpr c10
                    have c10b1 : (a0 != 157) = true := bne_iff_ne.mpr c10
                    by_cases c11 : a0 = 158
                    · rw [if_pos c11] at H
                      have c11b0 : (a0 == 158) = true := beq_iff_eq.mpr c11
                      have c11b1 : (a0 != 158) = false := bne_eq_false_iff_eq.mpr c11
                      clear c11
                      simp only [Option.some.injEq, Prod.mk.injEq] at H
                      obtain ⟨rfl, rfl, rfl⟩ := H
                      go_wp2
                      go_ret3
                      exact ⟨by first | rfl | (simp; done) | (simp [*]; done), by repeat (first | exact Drawn0.refl _ | apply Drawn0.step)⟩
                    · rw [if_neg c11] at H
                      have c11b0 : (a0 == 158) = false := beq_eq_false_iff_ne.mpr c11
                      have c11b1 : (a0 != 158) = true := bne_iff_ne.mpr c11
                      by_cases c12 : a0 = 159
                      · rw [if_pos c12] at H
                        have c12b0 : (a0 == 159) = true := beq_iff_eq.mpr c12
                        have c12b1 : (a0 != 159) = false := bne_eq_false_iff_eq.mpr c12
                        clear c12
                        simp only [Option.some.injEq, Prod.mk.injEq] at H
                        obtain ⟨rfl, rfl, rfl⟩ := H
                        go_wp2
                        go_ret3
                        exact ⟨by first | rfl | (simp; done) | (simp [*]; done), by repeat (first | exact Drawn0.refl _ | apply Drawn0.step)⟩
                      · rw [if_neg c12] at H
                        have c12b0 : (a0 == 159) = false := beq_eq_false_iff_ne.mpr c12
                        have c12b1 : (a0 != 159) = true := bne_iff_ne.mpr c12
                        by_cases c13 : a0 < 160
                        · rw [if_pos c13] at H
                          have c13b0 : decide (a0 < 160) = true := decide_eq_true c13
                          clear c13
                          simp only [Option.some.injEq, Prod.mk.injEq] at H
                          obtain ⟨rfl, rfl, rfl⟩ := H
                          go_wp2
                          go_ret3
                          exact ⟨by first | rfl | (simp; done) | (simp [*]; done), by repeat (first | exact Drawn0.refl _ | apply Drawn0.step)⟩
                        · rw [if_neg c13] at H
                          have c13b0 : decide (a0 < 160) = false := decide_eq_false c13
                          clear c13
                          replace H := Option.bind_eq_some_iff.mp H
                          obtain ⟨t101, A140, H⟩ := H
                          replace H : (if t101 = true then (some (14, 2, true)) else (some (0, 0, true))) = some (r1, r2, r3) := H
                          have A14 := Aside0.mk A140
                          clear A140
                          by_cases c15 : t101 = true
                          · subst c15
                            have H1 : (some (14, 2, true)) = some (r1, r2, r3) := by rw [if_pos rfl] at H; exact H
                            clear H
                            have H := H1
                            clear H1
                            simp only [Option.some.injEq, Prod.mk.injEq] at H
                            obtain ⟨rfl, rfl, rfl⟩ := H
                            go_wp2_with (first | ((with_reducible refine gate_callee (f := 21) rfl ?_); refine goesL_ (some 41) rfl rfl Tryd.func21 (by kernel_rfl) rfl #[.int .u8 a0, .int .u8 194, .int .u8 244] rfl (by (try simp only [List.map_toArray, List.map_cons, List.map_nil]); first | done | rfl | (simp only [List.length_drop, List.length_take]; rfl) | (simp [Act.eval, *]; done) | (simp [Act.eval, *]; unfold wrap64; omega)) ?_; (with_reducible refine (spec_within.calls a0 194 244 true _ A14.out).mono ?_); rintro e w' ⟨rfl, ⟨nd, rfl⟩⟩; refine ⟨_, rfl, ?_⟩))
                            go_ret3
                            exact ⟨by first | rfl | (simp; done) | (simp [*]; done), by repeat (first | exact Drawn0.refl _ | apply Drawn0.step)⟩
                          · replace c15 := Bool.eq_false_iff.mpr c15
                            subst c15
                            have H1 : (some (0, 0, true)) = some (r1, r2, r3) := by rw [if_neg (show ¬ (false = true) by decide)] at H; exact H
                            clear H
                            have H := H1
                            clear H1
                            simp only [Option.some.injEq, Prod.mk.injEq] at H
                            obtain ⟨rfl, rfl, rfl⟩ := H
                            go_wp2_with (first | ((with_reducible refine gate_callee (f := 21) rfl ?_); refine goesL_ (some 41) rfl rfl Tryd.func21 (by kernel_rfl) rfl #[.int .u8 a0, .int .u8 194, .int .u8 244] rfl (by (try simp only [List.map_toArray, List.map_cons, List.map_nil]); first | done | rfl | (simp only [List.length_drop, List.length_take]; rfl) | (simp [Act.eval, *]; done) | (simp [Act.eval, *]; unfold wrap64; omega)) ?_; (with_reducible refine (spec_within.calls a0 194 244 false _ A14.out).mono ?_); rintro e w' ⟨rfl, ⟨nd, rfl⟩⟩; refine ⟨_, rfl, ?_⟩))
                            go_ret3
                            exact ⟨by first | rfl | (simp; done) | (simp [*]; done), by repeat (first | exact Drawn0.refl _ | apply Drawn0.step)⟩

/-! ### spec_inString: function 20 -/
mutual
def spec_inString.j2 : Nat → Int → Int → Option (Int × Int)
  | 0, _, _ => none
  | k + 1, x0, x1 => if x0 = 7 then (spec_inString.j3 k x0 x1 false) else (spec_inString.j3 k x0 x1 (x0 != 10))
def spec_inString.j3 : Nat → Int → Int → Bool → Option (Int × Int)
  | 0, _, _, _ => none
  | k + 1, x0, x1, x44 => if x44 = true then ((spec_anywhere.f k x1).bind fun bt102 => (if bt102.2.2 = true then (some (bt102.1, bt102.2.1)) else (some (x0, 7)))) else (some (x0, 7))
def spec_inString.j0 : Nat → Int → Int → Bool → Option (Int × Int)
  | 0, _, _, _ => none
  | k + 1, x0, x1, x12 => if x12 = true then (some (0, 0)) else (if x1 = 27 then (some (8, 4)) else (if x1 = 156 then (spec_inString.j1 k x0 x1 (x1 == 156)) else (if x0 = 10 then (spec_inString.j1 k x0 x1 (x1 == 7)) else (spec_inString.j1 k x0 x1 false))))
def spec_inString.j1 : Nat → Int → Int → Bool → Option (Int × Int)
  | 0, _, _, _ => none
  | k + 1, x0, x1, x22 => if x22 = true then (some (0, 4)) else (if x0 = 10 then (if x1 < 32 then (some (x0, 0)) else (spec_inString.j2 k x0 x1)) else (spec_inString.j2 k x0 x1))
end
def spec_inString.f (k : Nat) (a0 : Int) (a1 : Int) : Option (Int × Int) := if a0 ≥ 15 then (some (0, 0)) else (if a1 = 24 then (spec_inString.j0 k a0 a1 true) else (spec_inString.j0 k a0 a1 (a1 == 26)))
theorem spec_inString.mono_l : ∀ k, (∀ y0 y1, LeO (spec_inString.j2 k y0 y1) (spec_inString.j2 (k + 1) y0 y1)) ∧ (∀ y0 y1 y2, LeO (spec_inString.j3 k y0 y1 y2) (spec_inString.j3 (k + 1) y0 y1 y2)) ∧ (∀ y0 y1 y2, LeO (spec_inString.j0 k y0 y1 y2) (spec_inString.j0 (k + 1) y0 y1 y2)) ∧ (∀ y0 y1 y2, LeO (spec_inString.j1 k y0 y1 y2) (spec_inString.j1 (k + 1) y0 y1 y2))
  | 0 => ⟨fun _ _ r h => by simp [spec_inString.j2] at h, fun _ _ _ r h => by simp [spec_inString.j3] at h, fun _ _ _ r h => by simp [spec_inString.j0] at h, fun _ _ _ r h => by simp [spec_inString.j1] at h⟩
  | k + 1 => by
    obtain ⟨ih0, ih1, ih2, ih3⟩ := spec_inString.mono_l k
    refine ⟨?_, ?_, ?_, ?_⟩
    · intro y0 y1
      unfold spec_inString.j2
      repeat' first
      | (with_reducible exact ih0 _ _)
      | (with_reducible exact ih1 _ _ _)
      | (with_reducible exact ih2 _ _ _)
      | (with_reducible exact ih3 _ _ _)
      | (with_reducible exact spec_anywhere.mono _ _)
      | (with_reducible exact LeO.refl _)
      | (with_reducible exact LeO.none _)
      | (with_reducible refine LeO.ite ?_ ?_)
      | (with_reducible refine LeO.bind ?_ (fun _ => ?_))
      | exact ih0 _ _
      | exact ih1 _ _ _
      | exact ih2 _ _ _
      | exact ih3 _ _ _
      | exact spec_anywhere.mono _ _
      | exact LeO.none _
      | refine LeO.ite ?_ ?_
      | refine LeO.bind ?_ (fun _ => ?_)
    · intro y0 y1 y2
      unfold spec_inString.j3
      repeat' first
      | (with_reducible exact ih0 _ _)
      | (with_reducible exact ih1 _ _ _)
      | (with_reducible exact ih2 _ _ _)
      | (with_reducible exact ih3 _ _ _)
      | (with_reducible exact spec_anywhere.mono _ _)
      | (with_reducible exact LeO.refl _)
      | (with_reducible exact LeO.none _)
      | (with_reducible refine LeO.ite ?_ ?_)
      | (with_reducible refine LeO.bind ?_ (fun _ => ?_))
      | exact ih0 _ _
      | exact ih1 _ _ _
      | exact ih2 _ _ _
      | exact ih3 _ _ _
      | exact spec_anywhere.mono _ _
      | exact LeO.none _
      | refine LeO.ite ?_ ?_
      | refine LeO.bind ?_ (fun _ => ?_)
    · intro y0 y1 y2
      unfold spec_inString.j0
      repeat' first
      | (with_reducible exact ih0 _ _)
      | (with_reducible exact ih1 _ _ _)
      | (with_reducible exact ih2 _ _ _)
      | (with_reducible exact ih3 _ _ _)
      | (with_reducible exact spec_anywhere.mono _ _)
      | (with_reducible exact LeO.refl _)
      | (with_reducible exact LeO.none _)
      | (with_reducible refine LeO.ite ?_ ?_)
      | (with_reducible refine LeO.bind ?_ (fun _ => ?_))
      | exact ih0 _ _
      | exact ih1 _ _ _
      | exact ih2 _ _ _
      | exact ih3 _ _ _
      | exact spec_anywhere.mono _ _
      | exact LeO.none _
      | refine LeO.ite ?_ ?_
      | refine LeO.bind ?_ (fun _ => ?_)
    · intro y0 y1 y2
      unfold spec_inString.j1
      repeat' first
      | (with_reducible exact ih0 _ _)
      | (with_reducible exact ih1 _ _ _)
      | (with_reducible exact ih2 _ _ _)
      | (with_reducible exact ih3 _ _ _)
      | (with_reducible exact spec_anywhere.mono _ _)
      | (with_reducible exact LeO.refl _)
      | (with_reducible exact LeO.none _)
      | (with_reducible refine LeO.ite ?_ ?_)
      | (with_reducible refine LeO.bind ?_ (fun _ => ?_))
      | exact ih0 _ _
      | exact ih1 _ _ _
      | exact ih2 _ _ _
      | exact ih3 _ _ _
      | exact spec_anywhere.mono _ _
      | exact LeO.none _
      | refine LeO.ite ?_ ?_
      | refine LeO.bind ?_ (fun _ => ?_)
theorem spec_inString.mono : ∀ a0 a1 k, LeO (spec_inString.f k a0 a1) (spec_inString.f (k + 1) a0 a1) := by
  intro a0 a1 k
  obtain ⟨ih0, ih1, ih2, ih3⟩ := spec_inString.mono_l k
  unfold spec_inString.f
  repeat' first
      | (with_reducible exact ih0 _ _)
      | (with_reducible exact ih1 _ _ _)
      | (with_reducible exact ih2 _ _ _)
      | (with_reducible exact ih3 _ _ _)
      | (with_reducible exact spec_anywhere.mono _ _)
      | (with_reducible exact LeO.refl _)
      | (with_reducible exact LeO.none _)
      | (with_reducible refine LeO.ite ?_ ?_)
      | (with_reducible refine LeO.bind ?_ (fun _ => ?_))
      | exact ih0 _ _
      | exact ih1 _ _ _
      | exact ih2 _ _ _
      | exact ih3 _ _ _
      | exact spec_anywhere.mono _ _
      | exact LeO.none _
      | refine LeO.ite ?_ ?_
      | refine LeO.bind ?_ (fun _ => ?_)
set_option maxHeartbeats 8000000 in
set_option maxRecDepth 100000 in
theorem spec_inString.calls (k : Nat) (a0 : Int) (a1 : Int) (r1 : Int) (r2 : Int) (w : World) (h : spec_inString.f k a0 a1 = some (r1, r2)) :
    Calls Tryd.prog 20 #[.int .i64 a0, .int .u8 a1] w fun e w' => e = .returned (.tuple #[.int .i64 r1, .int .i64 r2]) ∧ Drawn0 w w' := by
  have H : (if a0 ≥ 15 then (some (0, 0)) else (if a1 = 24 then (spec_inString.j0 k a0 a1 true) else (spec_inString.j0 k a0 a1 (a1 == 26)))) = some (r1, r2) := h
  clear h
  have HC3 := Aside0.mk H
  clear H
  go_enter Tryd.func20, Tryd.ntmps20
  go_upto_block 0 with (fail)
  go_cut [] (fun wc => ∃ (kq : Nat), Aside0 (spec_inString.j2 kq a0 a1 = some (r1, r2)) ∧ Aside0 (kq ≤ k) ∧ Drawn0 w wc)
  case first =>
    have H := HC3.out
    clear HC3
    by_cases c4 : a0 ≥ 15
    · rw [if_pos c4] at H
      have c4b0 : decide (15 ≤ a0) = true := decide_eq_true c4
      clear c4
      (first | rw [c4b0] | (simp only [i64_w, i32_w]; rw [c4b0]) | skip)
      simp only [Option.some.injEq, Prod.mk.injEq] at H
      obtain ⟨rfl, rfl⟩ := H
      go_wp2
      go_ret2
      exact ⟨by first | rfl | (simp; done) | (simp [*]; done), by repeat (first | exact Drawn0.refl _ | apply Drawn0.step)⟩
    · rw [if_neg c4] at H
      have c4b0 : decide (15 ≤ a0) = false := decide_eq_false c4
      clear c4
      (first | rw [c4b0] | (simp only [i64_w, i32_w]; rw [c4b0]) | skip)
      have HC5 := Aside0.mk H
      clear H
      go_upto_region 3 with (fail)
      go_cut [12] (fun v12 wc => ∃ (kq : Nat) (x12_4 : Bool), v12 = .bool x12_4 ∧ Aside0 (spec_inString.j0 kq a0 a1 x12_4 = some (r1, r2)) ∧ Aside0 (kq ≤ k) ∧ Drawn0 w wc)
      case first =>
        have H := HC5.out
        clear HC5
        by_cases c6 : a1 = 24
        · rw [if_pos c6] at H
          have c6b0 : (a1 == 24) = true := beq_iff_eq.mpr c6
          have c6b1 : (a1 != 24) = false := bne_eq_false_iff_eq.mpr c6
          clear c6
          (first | rw [c6b0] | (simp only [i64_w, i32_w]; rw [c6b0]) | skip)
          have H' := Aside0.mk H
          clear H
          go_wp2
          go_meet
          case rel => exact ⟨_, (true), (by first | rfl | (simp; done) | (simp [*]; done)), H', ⟨by first | omega | exact Nat.le_refl _⟩, by repeat (first | exact Drawn0.refl _ | apply Drawn0.step)⟩
        · rw [if_neg c6] at H
          have c6b0 : (a1 == 24) = false := beq_eq_false_iff_ne.mpr c6
          have c6b1 : (a1 != 24) = true := bne_iff_ne.mpr c6
          (first | rw [c6b0] | (simp only [i64_w, i32_w]; rw [c6b0]) | skip)
          have H' := Aside0.mk H
          clear H
          go_wp2
          go_meet
          case rel => exact ⟨_, ((a1 == 26)), (by first | rfl | (simp; done) | (simp [*]; done)), H', ⟨by first | omega | exact Nat.le_refl _⟩, by repeat (first | exact Drawn0.refl _ | apply Drawn0.step)⟩
      case rest =>
        clear HC5
        try clear c2
        try clear p2
        try clear c4
        try clear c4b0
        try clear c6
        try clear c6b0
        try clear c6b1
        obtain ⟨kq, x12_4, rfl, HA, HJ4, ⟨mc4, rfl⟩⟩ := hcut
        cases kq with
        | zero => exact absurd HA.out (by simp [spec_inString.j0])
        | succ kj4 =>
          have H := HA.out
          clear HA
          simp only [spec_inString.j0] at H
          by_cases c7 : x12_4 = true
          · subst c7
            have H1 : (some (0, 0)) = some (r1, r2) := by rw [if_pos rfl] at H; exact H
            clear H
            have H := H1
            clear H1
            simp only [Option.some.injEq, Prod.mk.injEq] at H
            obtain ⟨rfl, rfl⟩ := H
            go_wp2
            go_ret2
            exact ⟨by first | rfl | (simp; done) | (simp [*]; done), by repeat (first | exact Drawn0.refl _ | apply Drawn0.step)⟩
          · replace c7 := Bool.eq_false_iff.mpr c7
            subst c7
            have H1 : (if a1 = 27 then (some (8, 4)) else (if a1 = 156 then (spec_inString.j1 kj4 a0 a1 (a1 == 156)) else (if a0 = 10 then (spec_inString.j1 kj4 a0 a1 (a1 == 7)) else (spec_inString.j1 kj4 a0 a1 false)))) = some (r1, r2) := by rw [if_neg (show ¬ (false = true) by decide)] at H; exact H
            clear H
            have H := H1
            clear H1
            by_cases c8 : a1 = 27
            · rw [if_pos c8] at H
              have c8b0 : (a1 == 27) = true := beq_iff_eq.mpr c8
              have c8b1 : (a1 != 27) = false := bne_eq_false_iff_eq.mpr c8
              clear c8
              simp only [Option.some.injEq, Prod.mk.injEq] at H
              obtain ⟨rfl, rfl⟩ := H
              go_wp2
              go_ret2
              exact ⟨by first | rfl | (simp; done) | (simp [*]; done), by repeat (first | exact Drawn0.refl _ | apply Drawn0.step)⟩
            · rw [if_neg c8] at H
              have c8b0 : (a1 == 27) = false := beq_eq_false_iff_ne.mpr c8
              have c8b1 : (a1 != 27) = true := bne_iff_ne.mpr c8
              have HC9 := Aside0.mk H
              clear H
              go_upto_if 22 with (fail)
              go_cut [22] (fun v22 wc => ∃ (kq : Nat) (x22_8 : Bool), v22 = .bool x22_8 ∧ Aside0 (spec_inString.j1 kq a0 a1 x22_8 = some (r1, r2)) ∧ Aside0 (kq ≤ kj4) ∧ Drawn0 w wc)
              case first =>
                have H := HC9.out
                clear HC9
                by_cases c10 : a1 = 156
                · rw [if_pos c10] at H
                  have c10b0 : (a1 == 156) = true := beq_iff_eq.mpr c10
                  have c10b1 : (a1 != 156) = false := bne_eq_false_iff_eq.mpr c10
                  clear c10
                  (first | rw [c10b0] | (simp only [i64_w, i32_w]; rw [c10b0]) | skip)
                  have H' := Aside0.mk H
                  clear H
                  go_wp2
                  go_meet
                  case rel => exact ⟨_, ((a1 == 156)), (by first | rfl | (simp; done) | (simp [*]; done)), H', ⟨by have := HJ4.out; first | omega | exact Nat.le_refl _⟩, by repeat (first | exact Drawn0.refl _ | apply Drawn0.step)⟩
                · rw [if_neg c10] at H
                  have c10b0 : (a1 == 156) = false := beq_eq_false_iff_ne.mpr c10
                  have c10b1 : (a1 != 156) = true := bne_iff_ne.mpr c10
                  (first | rw [c10b0] | (simp only [i64_w, i32_w]; rw [c10b0]) | skip)
                  by_cases c11 : a0 = 10
                  · rw [if_pos c11] at H
                    have c11b0 : (a0 == 10) = true := beq_iff_eq.mpr c11
                    have c11b1 : (a0 != 10) = false := bne_eq_false_iff_eq.mpr c11
                    clear c11
                    have H' := Aside0.mk H
                    clear H
                    go_wp2
                    go_meet
                    case rel => exact ⟨_, ((a1 == 7)), (by first | rfl | (simp; done) | (simp [*]; done)), H', ⟨by have := HJ4.out; first | omega | exact Nat.le_refl _⟩, by repeat (first | exact Drawn0.refl _ | apply Drawn0.step)⟩
                  · rw [if_neg c11] at H
                    have c11b0 : (a0 == 10) = false := beq_eq_false_iff_ne.mpr c11
                    have c11b1 : (a0 != 10) = true := bne_iff_ne.mpr c11
                    have H' := Aside0.mk H
                    clear H
                    go_wp2
                    go_meet
                    case rel => exact ⟨_, (false), (by first | rfl | (simp; done) | (simp [*]; done)), H', ⟨by have := HJ4.out; first | omega | exact Nat.le_refl _⟩, by repeat (first | exact Drawn0.refl _ | apply Drawn0.step)⟩
              case rest =>
                clear HC9
                try clear c1
                try clear c2
                try clear p2
                try clear c4
                try clear c4b0
                try clear c6
                try clear c6b0
                try clear c6b1
                try clear c7
                try clear c8
                try clear c8b0
                try clear c8b1
                try clear c10
                try clear c10b0
                try clear c10b1
                try clear c11
                try clear c11b0
                try clear c11b1
                try clear p2
                obtain ⟨kq, x22_8, rfl, HA, HJ8, ⟨mc8, rfl⟩⟩ := hcut
                cases kq with
                | zero => exact absurd HA.out (by simp [spec_inString.j1])
                | succ kj8 =>
                  have H := HA.out
                  clear HA
                  simp only [spec_inString.j1] at H
                  by_cases c12 : x22_8 = true
                  · subst c12
                    have H1 : (some (0, 4)) = some (r1, r2) := by rw [if_pos rfl] at H; exact H
                    clear H
                    have H := H1
                    clear H1
                    simp only [Option.some.injEq, Prod.mk.injEq] at H
                    obtain ⟨rfl, rfl⟩ := H
                    go_wp2
                    go_ret2
                    exact ⟨by first | rfl | (simp; done) | (simp [*]; done), by repeat (first | exact Drawn0.refl _ | apply Drawn0.step)⟩
                  · replace c12 := Bool.eq_false_iff.mpr c12
                    subst c12
                    have H1 : (if a0 = 10 then (if a1 < 32 then (some (a0, 0)) else (spec_inString.j2 kj8 a0 a1)) else (spec_inString.j2 kj8 a0 a1)) = some (r1, r2) := by rw [if_neg (show ¬ (false = true) by decide)] at H; exact H
                    clear H
                    have H := H1
                    clear H1
                    by_cases c13 : a0 = 10
                    · rw [if_pos c13] at H
                      have c13b0 : (a0 == 10) = true := beq_iff_eq.mpr c13
                      have c13b1 : (a0 != 10) = false := bne_eq_false_iff_eq.mpr c13
                      clear c13
                      by_cases c14 : a1 < 32
                      · rw [if_pos c14] at H
                        have c14b0 : decide (a1 < 32) = true := decide_eq_true c14
                        clear c14
                        simp only [Option.some.injEq, Prod.mk.injEq] at H
                        obtain ⟨rfl, rfl⟩ := H
                        go_wp2
                        go_ret2
                        exact ⟨by first | rfl | (simp; done) | (simp [*]; done), by repeat (first | exact Drawn0.refl _ | apply Drawn0.step)⟩
                      · rw [if_neg c14] at H
                        have c14b0 : decide (a1 < 32) = false := decide_eq_false c14
                        clear c14
                        have H' := Aside0.mk H
                        clear H
                        go_wp2
                        go_meet
                        case rel => exact ⟨_, H', ⟨by have := HJ4.out; have := HJ8.out; first | omega | exact Nat.le_refl _⟩, by repeat (first | exact Drawn0.refl _ | apply Drawn0.step)⟩
                    · rw [if_neg c13] at H
                      have c13b0 : (a0 == 10) = false := beq_eq_false_iff_ne.mpr c13
                      have c13b1 : (a0 != 10) = true := bne_iff_ne.mpr c13
                      have H' := Aside0.mk H
                      clear H
                      go_wp2
                      go_meet
                      case rel => exact ⟨_, H', ⟨by have := HJ4.out; have := HJ8.out; first | omega | exact Nat.le_refl _⟩, by repeat (first | exact Drawn0.refl _ | apply Drawn0.step)⟩
  case rest =>
    clear HC3
    try clear c1
    try clear c2
    try clear p2
    try clear c4
    try clear c4b0
    try clear c6
    try clear c6b0
    try clear c6b1
    try clear c7
    try clear c8
    try clear c8b0
    try clear c8b1
    try clear c10
    try clear c10b0
    try clear c10b1
    try clear c11
    try clear c11b0
    try clear c11b1
    try clear c12
    try clear c13
    try clear c13b0
    try clear c13b1
    try clear c14
    try clear c14b0
    try clear p2
    obtain ⟨kq, HA, HJ2, ⟨mc2, rfl⟩⟩ := hcut
    cases kq with
    | zero => exact absurd HA.out (by simp [spec_inString.j2])
    | succ kj2 =>
      have H := HA.out
      clear HA
      simp only [spec_inString.j2] at H
      have HC15 := Aside0.mk H
      clear H
      go_upto_region 12 with (fail)
      go_cut [44] (fun v44 wc => ∃ (kq : Nat) (x44_14 : Bool), v44 = .bool x44_14 ∧ Aside0 (spec_inString.j3 kq a0 a1 x44_14 = some (r1, r2)) ∧ Aside0 (kq ≤ kj2) ∧ Drawn0 w wc)
      case first =>
        have H := HC15.out
        clear HC15
        by_cases c16 : a0 = 7
        · rw [if_pos c16] at H
          have c16b0 : (a0 == 7) = true := beq_iff_eq.mpr c16
          have c16b1 : (a0 != 7) = false := bne_eq_false_iff_eq.mpr c16
          clear c16
          (first | rw [c16b0] | (simp only [i64_w, i32_w]; rw [c16b0]) | skip)
          have H' := Aside0.mk H
          clear H
          go_wp2
          go_meet
          case rel => exact ⟨_, (false), (by first | rfl | (simp; done) | (simp [*]; done)), H', ⟨by have := HJ2.out; first | omega | exact Nat.le_refl _⟩, by repeat (first | exact Drawn0.refl _ | apply Drawn0.step)⟩
        · rw [if_neg c16] at H
          have c16b0 : (a0 == 7) = false := beq_eq_false_iff_ne.mpr c16
          have c16b1 : (a0 != 7) = true := bne_iff_ne.mpr c16
          (first | rw [c16b0] | (simp only [i64_w, i32_w]; rw [c16b0]) | skip)
          have H' := Aside0.mk H
          clear H
          go_wp2
          go_meet
          case rel => exact ⟨_, ((a0 != 10)), (by first | rfl | (simp; done) | (simp [*]; done)), H', ⟨by have := HJ2.out; first | omega | exact Nat.le_refl _⟩, by repeat (first | exact Drawn0.refl _ | apply Drawn0.step)⟩
      case rest =>
        clear HC15
        try clear c1
        try clear c2
        try clear p2
        try clear c4
        try clear c4b0
        try clear c6
        try clear c6b0
        try clear c6b1
        try clear c7
        try clear c8
        try clear c8b0
        try clear c8b1
        try clear c10
        try clear c10b0
        try clear c10b1
        try clear c11
        try clear c11b0
        try clear c11b1
        try clear c12
        try clear c13
        try clear c13b0
        try clear c13b1
        try clear c14
        try clear c14b0
        try clear c16
        try clear c16b0
        try clear c16b1
        try clear p2
        obtain ⟨kq, x44_14, rfl, HA, HJ14, ⟨mc14, rfl⟩⟩ := hcut
        cases kq with
        | zero => exact absurd HA.out (by simp [spec_inString.j3])
        | succ kj14 =>
          have H := HA.out
          clear HA
          simp only [spec_inString.j3] at H
          by_cases c17 : x44_14 = true
          · subst c17
            have H1 : ((spec_anywhere.f kj14 a1).bind fun bt102 => (if bt102.2.2 = true then (some (bt102.1, bt102.2.1)) else (some (a0, 7)))) = some (r1, r2) := by rw [if_pos rfl] at H; exact H
            clear H
            have H := H1
            clear H1
            replace H := Option.bind_eq_some_iff.mp H
            obtain ⟨⟨t102, t103, t104⟩, A180, H⟩ := H
            replace H : (if t104 = true then (some (t102, t103)) else (some (a0, 7))) = some (r1, r2) := H
            have A18 := Aside0.mk A180
            clear A180
            by_cases c19 : t104 = true
            · subst c19
              have H1 : (some (t102, t103)) = some (r1, r2) := by rw [if_pos rfl] at H; exact H
              clear H
              have H := H1
              clear H1
              simp only [Option.some.injEq, Prod.mk.injEq] at H
              obtain ⟨rfl, rfl⟩ := H
              go_wp2_with (first | ((with_reducible refine gate_callee (f := 22) rfl ?_); refine goesL_ (some 47) rfl rfl Tryd.func22 (by kernel_rfl) rfl #[.int .u8 a1] rfl (by (try simp only [List.map_toArray, List.map_cons, List.map_nil]); first | done | rfl | (simp only [List.length_drop, List.length_take]; rfl) | (simp [Act.eval, *]; done) | (simp [Act.eval, *]; unfold wrap64; omega)) ?_; (with_reducible refine (spec_anywhere.calls kj14 a1 t102 t103 true _ A18.out).mono ?_); rintro e w' ⟨rfl, ⟨nd, rfl⟩⟩; refine ⟨_, rfl, ?_⟩))
              go_ret2
              exact ⟨by first | rfl | (simp; done) | (simp [*]; done), by repeat (first | exact Drawn0.refl _ | apply Drawn0.step)⟩
            · replace c19 := Bool.eq_false_iff.mpr c19
              subst c19
              have H1 : (some (a0, 7)) = some (r1, r2) := by rw [if_neg (show ¬ (false = true) by decide)] at H; exact H
              clear H
              have H := H1
              clear H1
              simp only [Option.some.injEq, Prod.mk.injEq] at H
              obtain ⟨rfl, rfl⟩ := H
              go_wp2_with (first | ((with_reducible refine gate_callee (f := 22) rfl ?_); refine goesL_ (some 47) rfl rfl Tryd.func22 (by kernel_rfl) rfl #[.int .u8 a1] rfl (by (try simp only [List.map_toArray, List.map_cons, List.map_nil]); first | done | rfl | (simp only [List.length_drop, List.length_take]; rfl) | (simp [Act.eval, *]; done) | (simp [Act.eval, *]; unfold wrap64; omega)) ?_; (with_reducible refine (spec_anywhere.calls kj14 a1 t102 t103 false _ A18.out).mono ?_); rintro e w' ⟨rfl, ⟨nd, rfl⟩⟩; refine ⟨_, rfl, ?_⟩))
              go_ret2
              exact ⟨by first | rfl | (simp; done) | (simp [*]; done), by repeat (first | exact Drawn0.refl _ | apply Drawn0.step)⟩
          · replace c17 := Bool.eq_false_iff.mpr c17
            subst c17
            have H1 : (some (a0, 7)) = some (r1, r2) := by rw [if_neg (show ¬ (false = true) by decide)] at H; exact H
            clear H
            have H := H1
            clear H1
            simp only [Option.some.injEq, Prod.mk.injEq] at H
            obtain ⟨rfl, rfl⟩ := H
            go_wp2
            go_ret2
            exact ⟨by first | rfl | (simp; done) | (simp [*]; done), by repeat (first | exact Drawn0.refl _ | apply Drawn0.step)⟩

end Go.Proofs.YtmpmfdghdaofhaaDoor.PK
