-- Written by wip/pp.py, a program of this session, out of the translation. Not trusted: Lean checks it.
import Derived.Test.YtjjkagjdbjpikaaDoorPSx0
import Derived.Test.YtjjkagjdbjpikaaDoorPSx1
import Derived.Test.YtjjkagjdbjpikaaDoorPSx2
namespace Go.Proofs.YtjjkagjdbjpikaaDoor.PS
open Go.RowKit Go.Proofs.YtjjkagjdbjpikaaDoor.Or Go.Proofs.YtjjkagjdbjpikaaDoorW.PrintWords Go.Proofs.YtjjkagjdbjpikaaDoorW.PrintLast Go.Proofs.YtjjkagjdbjpikaaDoorW.PrintMore
attribute [local go_sem] max2_int min2_int max_two min_two max_three min_three max_four min_four   -- for this text's walks alone
attribute [local go_sem] Go.Proofs.YtjjkagjdbjpikaaDoor.Ext.wrap64_mod256 Go.Proofs.YtjjkagjdbjpikaaDoor.Ext.wrap64_mod32 Go.Proofs.YtjjkagjdbjpikaaDoor.Ext.i64_mod256 Go.Proofs.YtjjkagjdbjpikaaDoor.Ext.i64_mod32 Go.Proofs.YtjjkagjdbjpikaaDoor.Ext.i64_u8 Go.Proofs.YtjjkagjdbjpikaaDoor.Ext.w64_u8 Go.Proofs.YtjjkagjdbjpikaaDoor.Ext.i64_u32 Go.Proofs.YtjjkagjdbjpikaaDoor.Ext.w64_u32 
set_option linter.unusedVariables false
set_option linter.unusedSimpArgs false

/-! ### spec_MadeScreen: function 20 -/
mutual
def spec_MadeScreen.j0 : Nat → ByteArray → Int → Bool → Option (ByteArray)
  | 0, _, _, _ => none
  | k + 1, x0, x1, x14 => if x14 = true then (spec_MadeScreen.j1 k x0 (x0.size : Int)) else (spec_MadeScreen.j1 k x0 x1)
def spec_MadeScreen.j1 : Nat → ByteArray → Int → Option (ByteArray)
  | 0, _, _ => none
  | k + 1, x0, x1 => spec_MadeScreen.l0 k x0 x1 (⟨#[27, 80]⟩ : ByteArray) 0
def spec_MadeScreen.l0 : Nat → ByteArray → Int → ByteArray → Int → Option (ByteArray)
  | 0, _, _, _, _ => none
  | k + 1, x0, x1, x5, x6 => if x6 < (x0.size : Int) then (if x6 > 0 then (if x1 = 0 then (none) else (if (Int.tmod x6 x1) = 0 then (if x5.size + 4 ≤ 9223372036854775807 then (if 0 ≤ x6 then (if x6 ≤ (wrap64 (x6 + 1)) then (if (wrap64 (x6 + 1)) ≤ (x0.size : Int) then (if x5.size + 4 + ((x0.extract (x6 : Int).toNat ((wrap64 (x6 + 1)) : Int).toNat).size) ≤ 9223372036854775807 then (spec_MadeScreen.l0 k x0 x1 ((x5 ++ (⟨#[27, 92, 27, 80]⟩ : ByteArray)) ++ (x0.extract (x6 : Int).toNat ((wrap64 (x6 + 1)) : Int).toNat)) (wrap64 (x6 + 1))) else (none)) else (none)) else (none)) else (none)) else (none)) else (if 0 ≤ x6 then (if x6 ≤ (wrap64 (x6 + 1)) then (if (wrap64 (x6 + 1)) ≤ (x0.size : Int) then (if x5.size + ((x0.extract (x6 : Int).toNat ((wrap64 (x6 + 1)) : Int).toNat).size) ≤ 9223372036854775807 then (spec_MadeScreen.l0 k x0 x1 (x5 ++ (x0.extract (x6 : Int).toNat ((wrap64 (x6 + 1)) : Int).toNat)) (wrap64 (x6 + 1))) else (none)) else (none)) else (none)) else (none)))) else (if 0 ≤ x6 then (if x6 ≤ (wrap64 (x6 + 1)) then (if (wrap64 (x6 + 1)) ≤ (x0.size : Int) then (if x5.size + ((x0.extract (x6 : Int).toNat ((wrap64 (x6 + 1)) : Int).toNat).size) ≤ 9223372036854775807 then (spec_MadeScreen.l0 k x0 x1 (x5 ++ (x0.extract (x6 : Int).toNat ((wrap64 (x6 + 1)) : Int).toNat)) (wrap64 (x6 + 1))) else (none)) else (none)) else (none)) else (none))) else (if x5.size + 2 ≤ 9223372036854775807 then (some (x5 ++ (⟨#[27, 92]⟩ : ByteArray))) else (none))
end
def spec_MadeScreen.f (k : Nat) (a0 : ByteArray) (a1 : Int) : Option (ByteArray) := if a1 ≤ 0 then (spec_MadeScreen.j0 k a0 a1 true) else (spec_MadeScreen.j0 k a0 a1 (decide (a1 > (a0.size : Int))))
theorem spec_MadeScreen.mono_l : ∀ k, (∀ y0 y1 y2, LeO (spec_MadeScreen.j0 k y0 y1 y2) (spec_MadeScreen.j0 (k + 1) y0 y1 y2)) ∧ (∀ y0 y1, LeO (spec_MadeScreen.j1 k y0 y1) (spec_MadeScreen.j1 (k + 1) y0 y1)) ∧ (∀ y0 y1 y2 y3, LeO (spec_MadeScreen.l0 k y0 y1 y2 y3) (spec_MadeScreen.l0 (k + 1) y0 y1 y2 y3))
  | 0 => ⟨fun _ _ _ r h => by simp [spec_MadeScreen.j0] at h, fun _ _ r h => by simp [spec_MadeScreen.j1] at h, fun _ _ _ _ r h => by simp [spec_MadeScreen.l0] at h⟩
  | k + 1 => by
    obtain ⟨ih0, ih1, ih2⟩ := spec_MadeScreen.mono_l k
    refine ⟨?_, ?_, ?_⟩
    · intro y0 y1 y2
      unfold spec_MadeScreen.j0
      repeat' first
      | (with_reducible exact ih0 _ _ _)
      | (with_reducible exact ih1 _ _)
      | (with_reducible exact ih2 _ _ _ _)
      | (with_reducible exact LeO.refl _)
      | (with_reducible exact LeO.none _)
      | (with_reducible refine LeO.ite ?_ ?_)
      | (with_reducible refine LeO.bind ?_ (fun _ => ?_))
      | exact ih0 _ _ _
      | exact ih1 _ _
      | exact ih2 _ _ _ _
      | exact LeO.none _
      | refine LeO.ite ?_ ?_
      | refine LeO.bind ?_ (fun _ => ?_)
    · intro y0 y1
      unfold spec_MadeScreen.j1
      repeat' first
      | (with_reducible exact ih0 _ _ _)
      | (with_reducible exact ih1 _ _)
      | (with_reducible exact ih2 _ _ _ _)
      | (with_reducible exact LeO.refl _)
      | (with_reducible exact LeO.none _)
      | (with_reducible refine LeO.ite ?_ ?_)
      | (with_reducible refine LeO.bind ?_ (fun _ => ?_))
      | exact ih0 _ _ _
      | exact ih1 _ _
      | exact ih2 _ _ _ _
      | exact LeO.none _
      | refine LeO.ite ?_ ?_
      | refine LeO.bind ?_ (fun _ => ?_)
    · intro y0 y1 y2 y3
      unfold spec_MadeScreen.l0
      repeat' first
      | (with_reducible exact ih0 _ _ _)
      | (with_reducible exact ih1 _ _)
      | (with_reducible exact ih2 _ _ _ _)
      | (with_reducible exact LeO.refl _)
      | (with_reducible exact LeO.none _)
      | (with_reducible refine LeO.ite ?_ ?_)
      | (with_reducible refine LeO.bind ?_ (fun _ => ?_))
      | exact ih0 _ _ _
      | exact ih1 _ _
      | exact ih2 _ _ _ _
      | exact LeO.none _
      | refine LeO.ite ?_ ?_
      | refine LeO.bind ?_ (fun _ => ?_)
theorem spec_MadeScreen.mono : ∀ a0 a1 k, LeO (spec_MadeScreen.f k a0 a1) (spec_MadeScreen.f (k + 1) a0 a1) := by
  intro a0 a1 k
  obtain ⟨ih0, ih1, ih2⟩ := spec_MadeScreen.mono_l k
  unfold spec_MadeScreen.f
  repeat' first
      | (with_reducible exact ih0 _ _ _)
      | (with_reducible exact ih1 _ _)
      | (with_reducible exact ih2 _ _ _ _)
      | (with_reducible exact LeO.refl _)
      | (with_reducible exact LeO.none _)
      | (with_reducible refine LeO.ite ?_ ?_)
      | (with_reducible refine LeO.bind ?_ (fun _ => ?_))
      | exact ih0 _ _ _
      | exact ih1 _ _
      | exact ih2 _ _ _ _
      | exact LeO.none _
      | refine LeO.ite ?_ ?_
      | refine LeO.bind ?_ (fun _ => ?_)
set_option maxHeartbeats 8000000 in
set_option maxRecDepth 100000 in
theorem spec_MadeScreen.calls (k : Nat) (a0 : ByteArray) (a1 : Int) (r : ByteArray) (w : World) (h : spec_MadeScreen.f k a0 a1 = some r) :
    Calls Tryd.prog 20 #[.string a0, .int .i64 a1] w fun e w' => e = .returned (.string r) ∧ Drawn0 w w' := by
  have H : (if a1 ≤ 0 then (spec_MadeScreen.j0 k a0 a1 true) else (spec_MadeScreen.j0 k a0 a1 (decide (a1 > (a0.size : Int))))) = some r := h
  clear h
  have HC3 := Aside0.mk H
  clear H
  go_enter Tryd.func20, Tryd.ntmps20
  go_upto_region 1 with (fail)
  go_cut [14] (fun v14 wc => ∃ (kq : Nat) (x14_2 : Bool), v14 = .bool x14_2 ∧ Aside0 (spec_MadeScreen.j0 kq a0 a1 x14_2 = some r) ∧ Aside0 (kq ≤ k) ∧ Drawn0 w wc)
  case first =>
    have H := HC3.out
    clear HC3
    by_cases c4 : a1 ≤ 0
    · rw [if_pos c4] at H
      have c4b0 : decide (a1 ≤ 0) = true := decide_eq_true c4
      clear c4
      (first | rw [c4b0] | (simp only [i64_w, i32_w]; rw [c4b0]) | skip)
      have H' := Aside0.mk H
      clear H
      go_wp2
      go_meet
      case rel => exact ⟨_, (true), (by first | rfl | (simp; done) | (simp [*]; done)), H', ⟨by first | omega | exact Nat.le_refl _⟩, by repeat (first | exact Drawn0.refl _ | apply Drawn0.step)⟩
    · rw [if_neg c4] at H
      have c4b0 : decide (a1 ≤ 0) = false := decide_eq_false c4
      clear c4
      (first | rw [c4b0] | (simp only [i64_w, i32_w]; rw [c4b0]) | skip)
      have H' := Aside0.mk H
      clear H
      go_wp2
      go_meet
      case rel => exact ⟨_, (decide (a1 > (a0.size : Int))), (by first | rfl | (simp; done) | (simp [*]; done)), H', ⟨by first | omega | exact Nat.le_refl _⟩, by repeat (first | exact Drawn0.refl _ | apply Drawn0.step)⟩
  case rest =>
    clear HC3
    try clear c2
    try clear p2
    try clear c4
    try clear c4b0
    obtain ⟨kq, x14_2, rfl, HA, HJ2, ⟨mc2, rfl⟩⟩ := hcut
    cases kq with
    | zero => exact absurd HA.out (by simp [spec_MadeScreen.j0])
    | succ kj2 =>
      have H := HA.out
      clear HA
      simp only [spec_MadeScreen.j0] at H
      have HC5 := Aside0.mk H
      clear H
      go_upto_if 14 with (fail)
      go_cut [1] (fun v1 wc => ∃ (kq : Nat) (x1_4 : Int), v1 = .int .i64 x1_4 ∧ Aside0 (spec_MadeScreen.j1 kq a0 x1_4 = some r) ∧ Aside0 (kq ≤ kj2) ∧ Drawn0 w wc)
      case first =>
        have H := HC5.out
        clear HC5
        by_cases c6 : x14_2 = true
        · subst c6
          have H1 : (spec_MadeScreen.j1 kj2 a0 (a0.size : Int)) = some r := by rw [if_pos rfl] at H; exact H
          clear H
          have H := H1
          clear H1
          have H' := Aside0.mk H
          clear H
          go_wp2
          go_meet
          case rel => exact ⟨_, ((a0.size : Int)), (by first | rfl | (simp; done) | (simp [*]; done)), H', ⟨by have := HJ2.out; first | omega | exact Nat.le_refl _⟩, by repeat (first | exact Drawn0.refl _ | apply Drawn0.step)⟩
        · replace c6 := Bool.eq_false_iff.mpr c6
          subst c6
          have H1 : (spec_MadeScreen.j1 kj2 a0 a1) = some r := by rw [if_neg (show ¬ (false = true) by decide)] at H; exact H
          clear H
          have H := H1
          clear H1
          have H' := Aside0.mk H
          clear H
          go_wp2
          go_meet
          case rel => exact ⟨_, (a1), (by first | rfl | (simp; done) | (simp [*]; done)), H', ⟨by have := HJ2.out; first | omega | exact Nat.le_refl _⟩, by repeat (first | exact Drawn0.refl _ | apply Drawn0.step)⟩
      case rest =>
        clear HC5
        try clear c2
        try clear p2
        try clear c4
        try clear c4b0
        try clear c6
        try clear p2
        obtain ⟨kq, x1_4, rfl, HA, HJ4, ⟨mc4, rfl⟩⟩ := hcut
        cases kq with
        | zero => exact absurd HA.out (by simp [spec_MadeScreen.j1])
        | succ kj4 =>
          have H := HA.out
          clear HA
          simp only [spec_MadeScreen.j1] at H
          have H' := Aside0.mk H
          clear H
          go_wp2
          go_loopg [5, 6] kj4 (fun kq v5 v6 w' => ∃ (x5_3 : ByteArray) (x6_3 : Int), v5 = .string x5_3 ∧ v6 = .int .i64 x6_3 ∧ Aside0 (spec_MadeScreen.l0 kq a0 x1_4 x5_3 x6_3 = some r) ∧ Aside0 (kq ≤ kj4) ∧ Drawn0 w w')
          case atStart => exact ⟨((⟨#[27, 80]⟩ : ByteArray)), (0), (by first | rfl | (simp; done) | (simp [*]; done)), (by first | rfl | (simp; done) | (simp [*]; done)), H', ⟨Nat.le_refl _⟩, by repeat (first | exact Drawn0.refl _ | apply Drawn0.step)⟩
          case round =>
            clear H'
            try clear c2
            try clear p2
            try clear c4
            try clear c4b0
            try clear c6
            try clear p2
            obtain ⟨x5_3, x6_3, rfl, rfl, HA, HK3, ⟨m3, rfl⟩⟩ := hrel
            cases gk with
            | zero => exact absurd HA.out (by simp [spec_MadeScreen.l0])
            | succ k3 =>
              have H := HA.out
              clear HA
              simp only [spec_MadeScreen.l0] at H
              by_cases c7 : x6_3 < (a0.size : Int)
              · rw [if_pos c7] at H
                have c7b0 : decide (x6_3 < (a0.size : Int)) = true := decide_eq_true c7
                clear c7
                by_cases c8 : x6_3 > 0
                · rw [if_pos c8] at H
                  have c8b0 : decide (0 < x6_3) = true := decide_eq_true c8
                  clear c8
                  by_cases c9 : x1_4 = 0
                  · rw [if_pos c9] at H
                    exact absurd H (by simp)
                  · rw [if_neg c9] at H
                    have c9b0 : (x1_4 == 0) = false := beq_eq_false_iff_ne.mpr c9
                    have c9b1 : (x1_4 != 0) = true := bne_iff_ne.mpr c9
                    by_cases c10 : (Int.tmod x6_3 x1_4) = 0
                    · rw [if_pos c10] at H
                      have c10b0 : ((Int.tmod x6_3 x1_4) == 0) = true := beq_iff_eq.mpr c10
                      have c10b1 : ((Int.tmod x6_3 x1_4) != 0) = false := bne_eq_false_iff_eq.mpr c10
                      clear c10
                      by_cases c11 : x5_3.size + 4 ≤ 9223372036854775807
                      · rw [if_pos c11] at H
                        have c11b0 := eq_true c11
                        have c11b1 : decide (x5_3.size + 4 ≤ 9223372036854775807) = true := decide_eq_true c11
                        try have c11b2 : (9223372036854775807 < x5_3.size + 4) = False := eq_false (Nat.not_lt.2 c11)
                        by_cases c12 : 0 ≤ x6_3
                        · rw [if_pos c12] at H
                          have c12b0 := eq_true c12
                          have c12b1 : decide (0 ≤ x6_3) = true := decide_eq_true c12
                          clear c12
                          by_cases c13 : x6_3 ≤ (wrap64 (x6_3 + 1))
                          · rw [if_pos c13] at H
                            have c13b0 := eq_true c13
                            have c13b1 : decide (x6_3 ≤ (wrap64 (x6_3 + 1))) = true := decide_eq_true c13
                            by_cases c14 : (wrap64 (x6_3 + 1)) ≤ (a0.size : Int)
                            · rw [if_pos c14] at H
                              have c14b0 := eq_true c14
                              have c14b1 : decide ((wrap64 (x6_3 + 1)) ≤ (a0.size : Int)) = true := decide_eq_true c14
                              by_cases c15 : x5_3.size + 4 + ((a0.extract (x6_3 : Int).toNat ((wrap64 (x6_3 + 1)) : Int).toNat).size) ≤ 9223372036854775807
                              · rw [if_pos c15] at H
                                have c15b0 := eq_true c15
                                have c15b1 : decide (x5_3.size + 4 + ((a0.extract (x6_3 : Int).toNat ((wrap64 (x6_3 + 1)) : Int).toNat).size) ≤ 9223372036854775807) = true := decide_eq_true c15
                                try have c15b2 : (9223372036854775807 < x5_3.size + 4 + ((a0.extract (x6_3 : Int).toNat ((wrap64 (x6_3 + 1)) : Int).toNat).size)) = False := eq_false (Nat.not_lt.2 c15)
                                (try (have c15e0 := c15b0; simp only [ByteArray.size_extract] at c15e0))
                                (try (have c15e1 := c15b1; simp only [ByteArray.size_extract] at c15e1))
                                (try (have c15e2 := c15b2; simp only [ByteArray.size_extract] at c15e2))
                                (try (have c15e3 : (9223372036854775807 < x5_3.size + 4 + (((wrap64 (x6_3 + 1))).toNat - (x6_3).toNat)) = False := by (have h_ := c15; simp only [ByteArray.size_extract] at h_; apply eq_false; omega)))
                                have H' := Aside0.mk H
                                clear H
                                go_wp2
                                go_roundg k3
                                case measure => have := HJ2.out; have := HJ4.out; have := HK3.out; omega
                                case rel => exact ⟨((x5_3 ++ (⟨#[27, 92, 27, 80]⟩ : ByteArray)) ++ (a0.extract (x6_3 : Int).toNat ((wrap64 (x6_3 + 1)) : Int).toNat)), (wrap64 (x6_3 + 1)), (by first | rfl | (simp; done) | (simp [*]; done)), (by first | rfl | (simp; done) | (simp [*]; done)), H', ⟨by have := HJ2.out; have := HJ4.out; have := HK3.out; omega⟩, by repeat (first | exact Drawn0.refl _ | apply Drawn0.step)⟩
                              · rw [if_neg c15] at H
                                exact absurd H (by simp)
                            · rw [if_neg c14] at H
                              exact absurd H (by simp)
                          · rw [if_neg c13] at H
                            exact absurd H (by simp)
                        · rw [if_neg c12] at H
                          exact absurd H (by simp)
                      · rw [if_neg c11] at H
                        exact absurd H (by simp)
                    · rw [if_neg c10] at H
                      have c10b0 : ((Int.tmod x6_3 x1_4) == 0) = false := beq_eq_false_iff_ne.mpr c10
                      have c10b1 : ((Int.tmod x6_3 x1_4) != 0) = true := bne_iff_ne.mpr c10
                      by_cases c16 : 0 ≤ x6_3
                      · rw [if_pos c16] at H
                        have c16b0 := eq_true c16
                        have c16b1 : decide (0 ≤ x6_3) = true := decide_eq_true c16
                        clear c16
                        by_cases c17 : x6_3 ≤ (wrap64 (x6_3 + 1))
                        · rw [if_pos c17] at H
                          have c17b0 := eq_true c17
                          have c17b1 : decide (x6_3 ≤ (wrap64 (x6_3 + 1))) = true := decide_eq_true c17
                          by_cases c18 : (wrap64 (x6_3 + 1)) ≤ (a0.size : Int)
                          · rw [if_pos c18] at H
                            have c18b0 := eq_true c18
                            have c18b1 : decide ((wrap64 (x6_3 + 1)) ≤ (a0.size : Int)) = true := decide_eq_true c18
                            by_cases c19 : x5_3.size + ((a0.extract (x6_3 : Int).toNat ((wrap64 (x6_3 + 1)) : Int).toNat).size) ≤ 9223372036854775807
                            · rw [if_pos c19] at H
                              have c19b0 := eq_true c19
                              have c19b1 : decide (x5_3.size + ((a0.extract (x6_3 : Int).toNat ((wrap64 (x6_3 + 1)) : Int).toNat).size) ≤ 9223372036854775807) = true := decide_eq_true c19
                              try have c19b2 : (9223372036854775807 < x5_3.size + ((a0.extract (x6_3 : Int).toNat ((wrap64 (x6_3 + 1)) : Int).toNat).size)) = False := eq_false (Nat.not_lt.2 c19)
                              (try (have c19e0 := c19b0; simp only [ByteArray.size_extract] at c19e0))
                              (try (have c19e1 := c19b1; simp only [ByteArray.size_extract] at c19e1))
                              (try (have c19e2 := c19b2; simp only [ByteArray.size_extract] at c19e2))
                              (try (have c19e3 : (9223372036854775807 < x5_3.size + (((wrap64 (x6_3 + 1))).toNat - (x6_3).toNat)) = False := by (have h_ := c19; simp only [ByteArray.size_extract] at h_; apply eq_false; omega)))
                              have H' := Aside0.mk H
                              clear H
                              go_wp2
                              go_roundg k3
                              case measure => have := HJ2.out; have := HJ4.out; have := HK3.out; omega
                              case rel => exact ⟨(x5_3 ++ (a0.extract (x6_3 : Int).toNat ((wrap64 (x6_3 + 1)) : Int).toNat)), (wrap64 (x6_3 + 1)), (by first | rfl | (simp; done) | (simp [*]; done)), (by first | rfl | (simp; done) | (simp [*]; done)), H', ⟨by have := HJ2.out; have := HJ4.out; have := HK3.out; omega⟩, by repeat (first | exact Drawn0.refl _ | apply Drawn0.step)⟩
                            · rw [if_neg c19] at H
                              exact absurd H (by simp)
                          · rw [if_neg c18] at H
                            exact absurd H (by simp)
                        · rw [if_neg c17] at H
                          exact absurd H (by simp)
                      · rw [if_neg c16] at H
                        exact absurd H (by simp)
                · rw [if_neg c8] at H
                  have c8b0 : decide (0 < x6_3) = false := decide_eq_false c8
                  clear c8
                  by_cases c20 : 0 ≤ x6_3
                  · rw [if_pos c20] at H
                    have c20b0 := eq_true c20
                    have c20b1 : decide (0 ≤ x6_3) = true := decide_eq_true c20
                    clear c20
                    by_cases c21 : x6_3 ≤ (wrap64 (x6_3 + 1))
                    · rw [if_pos c21] at H
                      have c21b0 := eq_true c21
                      have c21b1 : decide (x6_3 ≤ (wrap64 (x6_3 + 1))) = true := decide_eq_true c21
                      by_cases c22 : (wrap64 (x6_3 + 1)) ≤ (a0.size : Int)
                      · rw [if_pos c22] at H
                        have c22b0 := eq_true c22
                        have c22b1 : decide ((wrap64 (x6_3 + 1)) ≤ (a0.size : Int)) = true := decide_eq_true c22
                        by_cases c23 : x5_3.size + ((a0.extract (x6_3 : Int).toNat ((wrap64 (x6_3 + 1)) : Int).toNat).size) ≤ 9223372036854775807
                        · rw [if_pos c23] at H
                          have c23b0 := eq_true c23
                          have c23b1 : decide (x5_3.size + ((a0.extract (x6_3 : Int).toNat ((wrap64 (x6_3 + 1)) : Int).toNat).size) ≤ 9223372036854775807) = true := decide_eq_true c23
                          try have c23b2 : (9223372036854775807 < x5_3.size + ((a0.extract (x6_3 : Int).toNat ((wrap64 (x6_3 + 1)) : Int).toNat).size)) = False := eq_false (Nat.not_lt.2 c23)
                          (try (have c23e0 := c23b0; simp only [ByteArray.size_extract] at c23e0))
                          (try (have c23e1 := c23b1; simp only [ByteArray.size_extract] at c23e1))
                          (try (have c23e2 := c23b2; simp only [ByteArray.size_extract] at c23e2))
                          (try (have c23e3 : (9223372036854775807 < x5_3.size + (((wrap64 (x6_3 + 1))).toNat - (x6_3).toNat)) = False := by (have h_ := c23; simp only [ByteArray.size_extract] at h_; apply eq_false; omega)))
                          have H' := Aside0.mk H
                          clear H
                          go_wp2
                          go_roundg k3
                          case measure => have := HJ2.out; have := HJ4.out; have := HK3.out; omega
                          case rel => exact ⟨(x5_3 ++ (a0.extract (x6_3 : Int).toNat ((wrap64 (x6_3 + 1)) : Int).toNat)), (wrap64 (x6_3 + 1)), (by first | rfl | (simp; done) | (simp [*]; done)), (by first | rfl | (simp; done) | (simp [*]; done)), H', ⟨by have := HJ2.out; have := HJ4.out; have := HK3.out; omega⟩, by repeat (first | exact Drawn0.refl _ | apply Drawn0.step)⟩
                        · rw [if_neg c23] at H
                          exact absurd H (by simp)
                      · rw [if_neg c22] at H
                        exact absurd H (by simp)
                    · rw [if_neg c21] at H
                      exact absurd H (by simp)
                  · rw [if_neg c20] at H
                    exact absurd H (by simp)
              · rw [if_neg c7] at H
                have c7b0 : decide (x6_3 < (a0.size : Int)) = false := decide_eq_false c7
                clear c7
                by_cases c24 : x5_3.size + 2 ≤ 9223372036854775807
                · rw [if_pos c24] at H
                  have c24b0 := eq_true c24
                  have c24b1 : decide (x5_3.size + 2 ≤ 9223372036854775807) = true := decide_eq_true c24
                  try have c24b2 : (9223372036854775807 < x5_3.size + 2) = False := eq_false (Nat.not_lt.2 c24)
                  obtain rfl := Option.some.inj H
                  go_wp2
                  go_ret
                  exact ⟨by first | rfl | (simp; done) | (simp [*]; done), by repeat (first | exact Drawn0.refl _ | apply Drawn0.step)⟩
                · rw [if_neg c24] at H
                  exact absurd H (by simp)

/-! ### laws_FnScreen: function 5 -/
def laws_FnScreen.f (k : Nat) (a0 : ByteArray) (a1 : Int) : Option (Bool) := if (a0.size : Int) > 2147483647 then (some true) else ((laws_makeShort.f k (([a0] : List ByteArray))).bind fun t142 => (if t142 = true then ((laws_makeAwake.f).bind fun t143 => (if t143 = true then ((impl_Screen.f a0 a1).bind fun t144 => ((spec_MadeScreen.f k a0 a1).bind fun t145 => (some (t144.toList == t145.toList)))) else (some false))) else ((laws_makeAwake.f).bind fun t146 => (some t146))))
theorem laws_FnScreen.mono : ∀ a0 a1 k, LeO (laws_FnScreen.f k a0 a1) (laws_FnScreen.f (k + 1) a0 a1) := by
  intro a0 a1 k
  unfold laws_FnScreen.f
  repeat' first
      | (with_reducible exact laws_makeShort.mono _ _)
      | (with_reducible exact spec_MadeScreen.mono _ _ _)
      | (with_reducible exact LeO.refl _)
      | (with_reducible exact LeO.none _)
      | (with_reducible refine LeO.ite ?_ ?_)
      | (with_reducible refine LeO.bind ?_ (fun _ => ?_))
      | exact laws_makeShort.mono _ _
      | exact spec_MadeScreen.mono _ _ _
      | exact LeO.none _
      | refine LeO.ite ?_ ?_
      | refine LeO.bind ?_ (fun _ => ?_)
set_option maxHeartbeats 8000000 in
set_option maxRecDepth 100000 in
theorem laws_FnScreen.calls (k : Nat) (a0 : ByteArray) (a1 : Int) (r : Bool) (w : World) (hLD : Laid w) (h : laws_FnScreen.f k a0 a1 = some r) :
    Calls Tryd.prog 5 #[.string a0, .int .i64 a1] w fun e w' => e = .returned (.bool r) ∧ Below w.heap.size w w' := by
  have HLD := Aside0.mk hLD
  clear hLD
  have HB := Aside0.mk (Below.refl w.heap.size w)
  have H : (if (a0.size : Int) > 2147483647 then (some true) else ((laws_makeShort.f k (([a0] : List ByteArray))).bind fun t142 => (if t142 = true then ((laws_makeAwake.f).bind fun t143 => (if t143 = true then ((impl_Screen.f a0 a1).bind fun t144 => ((spec_MadeScreen.f k a0 a1).bind fun t145 => (some (t144.toList == t145.toList)))) else (some false))) else ((laws_makeAwake.f).bind fun t146 => (some t146))))) = some r := h
  clear h
  by_cases c3 : (a0.size : Int) > 2147483647
  · rw [if_pos c3] at H
    have c3b0 : decide (2147483647 < (a0.size : Int)) = true := decide_eq_true c3
    have c3b1 : decide (2147483647 < a0.size) = true := decide_eq_true (by omega)
    clear c3
    obtain rfl := Option.some.inj H
    go_enter Tryd.func5, Tryd.ntmps5
    go_wp2
    go_ret
    exact ⟨by first | rfl | (simp [errW_none, errW_some] <;> rfl) | (simp [*, errW_none, errW_some] <;> rfl), by repeat (first | (with_reducible first | exact HB.out | apply below_alloc | apply Go.Proofs.YtjjkagjdbjpikaaDoor.Ext.below_bytes | apply pw_below_drewN | apply below_drew1) | exact HB.out)⟩
  · rw [if_neg c3] at H
    have c3b0 : decide (2147483647 < (a0.size : Int)) = false := decide_eq_false c3
    have c3b1 : decide (2147483647 < a0.size) = false := decide_eq_false (by omega)
    clear c3
    obtain ⟨y139, hy139⟩ : ∃ y_ : List ByteArray, y_ = (([a0] : List ByteArray)) := ⟨_, rfl⟩
    replace H : ((laws_makeShort.f k y139).bind fun t142 => (if t142 = true then ((laws_makeAwake.f).bind fun t143 => (if t143 = true then ((impl_Screen.f a0 a1).bind fun t144 => ((spec_MadeScreen.f k a0 a1).bind fun t145 => (some (t144.toList == t145.toList)))) else (some false))) else ((laws_makeAwake.f).bind fun t146 => (some t146)))) = some r := by first | (rw [hy139]; with_reducible exact H) | (have H2_ := (Option.bind_some _ _).symm.trans H; rw [hy139]; with_reducible exact H2_) | (have H2_ := (Option.bind_some _ _).symm.trans H; with_reducible exact H2_) | with_reducible exact H | (rw [hy139]; exact H) | exact H
    have Ny139 := Aside0.mk hy139
    clear hy139
    replace H := Option.bind_eq_some_iff.mp H
    obtain ⟨t142, A40, H⟩ := H
    replace H : (if t142 = true then ((laws_makeAwake.f).bind fun t143 => (if t143 = true then ((impl_Screen.f a0 a1).bind fun t144 => ((spec_MadeScreen.f k a0 a1).bind fun t145 => (some (t144.toList == t145.toList)))) else (some false))) else ((laws_makeAwake.f).bind fun t146 => (some t146))) = some r := H
    have A4 := Aside0.mk A40
    clear A40
    by_cases c5 : t142 = true
    · subst c5
      have H1 : ((laws_makeAwake.f).bind fun t143 => (if t143 = true then ((impl_Screen.f a0 a1).bind fun t144 => ((spec_MadeScreen.f k a0 a1).bind fun t145 => (some (t144.toList == t145.toList)))) else (some false))) = some r := by rw [if_pos rfl] at H; exact H
      clear H
      have H := H1
      clear H1
      replace H := Option.bind_eq_some_iff.mp H
      obtain ⟨t143, A60, H⟩ := H
      replace H : (if t143 = true then ((impl_Screen.f a0 a1).bind fun t144 => ((spec_MadeScreen.f k a0 a1).bind fun t145 => (some (t144.toList == t145.toList)))) else (some false)) = some r := H
      have A6 := Aside0.mk A60
      clear A60
      by_cases c7 : t143 = true
      · subst c7
        have H1 : ((impl_Screen.f a0 a1).bind fun t144 => ((spec_MadeScreen.f k a0 a1).bind fun t145 => (some (t144.toList == t145.toList)))) = some r := by rw [if_pos rfl] at H; exact H
        clear H
        have H := H1
        clear H1
        replace H := Option.bind_eq_some_iff.mp H
        obtain ⟨t144, A80, H⟩ := H
        replace H : ((spec_MadeScreen.f k a0 a1).bind fun t145 => (some (t144.toList == t145.toList))) = some r := H
        have A8 := Aside0.mk A80
        clear A80
        replace H := Option.bind_eq_some_iff.mp H
        obtain ⟨t145, A90, H⟩ := H
        replace H : (some (t144.toList == t145.toList)) = some r := H
        have A9 := Aside0.mk A90
        clear A90
        obtain rfl := Option.some.inj H
        go_enter Tryd.func5, Tryd.ntmps5
        go_wp2_with (first | ((with_reducible refine gate_dst (N := 9) rfl ?_); refine Kd.R_lit Kd.string _ 9 ?hg (N := 9) ?hd (xs := ([a0] : List ByteArray)) (inner := [.string a0]) (ok := fun _ => True) (okp := fun _ => True) ?hr ?hp (fun _ hk => hk) trivial (Below.refl _ _) (Nat.le_refl _) (by simp) ?_; (case hd => rfl); (case hg => rfl); (case hr => first | (go_simp; done) | (go_simp; rfl)); (case hp => exact (Reps.one (show Kd.M Kd.string _ _ _ a0 [.string a0] from rfl) (Reps.none _ _))); intro v140 w10 ho11 hb hg_ hnew_; clear hg_ hnew_; (first | rw [← Ny139.out] at ho11 | (simp only [Int.reduceToNat] at ho11; rw [← Ny139.out] at ho11)); have n0_ := Aside0.mk (Kd.R_lower ho11 (below_size (by repeat (first | (with_reducible first | exact HB.out | apply below_alloc | apply Go.Proofs.YtjjkagjdbjpikaaDoor.Ext.below_bytes | apply pw_below_drewN | apply below_drew1) | exact HB.out)))); have n1_ := Aside0.mk (below_step (by repeat (first | (with_reducible first | exact HB.out | apply below_alloc | apply Go.Proofs.YtjjkagjdbjpikaaDoor.Ext.below_bytes | apply pw_below_drewN | apply below_drew1) | exact HB.out)) hb); clear HB; have HO141 := n0_; have HB := n1_; clear n0_ n1_; clear hb ho11; obtain ⟨Ao12, co12, eo12⟩ := Kd.R_slice HO141.out; subst eo12) | ((with_reducible refine gate_callee (f := 13) rfl ?_); refine goesL_ (some 10) rfl rfl Tryd.func13 (by kernel_rfl) rfl #[.slice Ao12 y139.length co12] rfl (by (try simp only [List.map_toArray, List.map_cons, List.map_nil]); first | done | rfl | (simp only [List.length_drop, List.length_take]; rfl) | (simp [Act.eval, *]; done) | (simp [Act.eval, *]; unfold wrap64; omega)) ?_; (with_reducible refine (laws_makeShort.calls k _ _ y139 true _ ?side1 ?side2 A4.out).mono ?_); (case side1 => repeat (first | exact (Kd.R_reads' HO141.out).2.2 | (with_reducible refine Kd.C_alloc ?_ _) | (with_reducible refine Kd.C_drewN ?_ _) | (with_reducible refine Kd.C_drew ?_))); (case side2 => exact (Kd.R_reads' HO141.out).2.1); rintro e w' ⟨rfl, ⟨nd, rfl⟩⟩; refine ⟨_, rfl, ?_⟩) | ((with_reducible refine gate_callee (f := 14) rfl ?_); refine goesL_ (some 13) rfl rfl Tryd.func14 (by kernel_rfl) rfl #[] rfl (by (try simp only [List.map_toArray, List.map_cons, List.map_nil]); first | done | rfl | (simp only [List.length_drop, List.length_take]; rfl) | (simp [Act.eval, *]; done) | (simp [Act.eval, *]; unfold wrap64; omega)) ?_; (with_reducible refine (laws_makeAwake.calls  true _ ?side1 A6.out).mono ?_); (case side1 => exact HLD.out.below (by repeat (first | (with_reducible first | exact HB.out | apply below_alloc | apply Go.Proofs.YtjjkagjdbjpikaaDoor.Ext.below_bytes | apply pw_below_drewN | apply below_drew1) | exact HB.out))); rintro e w13 ⟨rfl, hb⟩; refine ⟨_, rfl, ?_⟩; have n0_ := Aside0.mk (Kd.R_below (by (with_reducible repeat (first | apply Kd.R_alloc | apply Go.Proofs.YtjjkagjdbjpikaaDoor.Ext.R_bytes | apply Kd.R_drewN | apply Kd.R_drew)); exact HO141.out) hb); have n1_ := Aside0.mk (below_step (by repeat (first | (with_reducible first | exact HB.out | apply below_alloc | apply Go.Proofs.YtjjkagjdbjpikaaDoor.Ext.below_bytes | apply pw_below_drewN | apply below_drew1) | exact HB.out)) hb); clear HO141; clear HB; have HO141 := n0_; have HB := n1_; clear n0_ n1_; (try clear hb); (try clear hb2); (try clear hk); (try clear hi)) | (go_at_call 19; (with_reducible refine (impl_Screen.calls a0 a1 t144 _ A8.out).mono ?_); rintro e w14 ⟨rfl, hb⟩; have n0_ := Aside0.mk (Kd.R_below (by (with_reducible repeat (first | apply Kd.R_alloc | apply Go.Proofs.YtjjkagjdbjpikaaDoor.Ext.R_bytes | apply Kd.R_drewN | apply Kd.R_drew)); exact HO141.out) hb); have n1_ := Aside0.mk (below_step (by repeat (first | (with_reducible first | exact HB.out | apply below_alloc | apply Go.Proofs.YtjjkagjdbjpikaaDoor.Ext.below_bytes | apply pw_below_drewN | apply below_drew1) | exact HB.out)) hb); clear HO141; clear HB; have HO141 := n0_; have HB := n1_; clear n0_ n1_; (try clear hb); (try clear hb2); (try clear hk); (try clear hi)) | (go_at_call 20; (with_reducible refine (spec_MadeScreen.calls k a0 a1 t145 _ A9.out).mono ?_); rintro e w' ⟨rfl, ⟨nd, rfl⟩⟩))
        go_ret
        exact ⟨by first | rfl | (simp [errW_none, errW_some] <;> rfl) | (simp [*, errW_none, errW_some] <;> rfl), by repeat (first | (with_reducible first | exact HB.out | apply below_alloc | apply Go.Proofs.YtjjkagjdbjpikaaDoor.Ext.below_bytes | apply pw_below_drewN | apply below_drew1) | exact HB.out)⟩
      · replace c7 := Bool.eq_false_iff.mpr c7
        subst c7
        have H1 : (some false) = some r := by rw [if_neg (show ¬ (false = true) by decide)] at H; exact H
        clear H
        have H := H1
        clear H1
        obtain rfl := Option.some.inj H
        go_enter Tryd.func5, Tryd.ntmps5
        go_wp2_with (first | ((with_reducible refine gate_dst (N := 9) rfl ?_); refine Kd.R_lit Kd.string _ 9 ?hg (N := 9) ?hd (xs := ([a0] : List ByteArray)) (inner := [.string a0]) (ok := fun _ => True) (okp := fun _ => True) ?hr ?hp (fun _ hk => hk) trivial (Below.refl _ _) (Nat.le_refl _) (by simp) ?_; (case hd => rfl); (case hg => rfl); (case hr => first | (go_simp; done) | (go_simp; rfl)); (case hp => exact (Reps.one (show Kd.M Kd.string _ _ _ a0 [.string a0] from rfl) (Reps.none _ _))); intro v140 w15 ho16 hb hg_ hnew_; clear hg_ hnew_; (first | rw [← Ny139.out] at ho16 | (simp only [Int.reduceToNat] at ho16; rw [← Ny139.out] at ho16)); have n0_ := Aside0.mk (Kd.R_lower ho16 (below_size (by repeat (first | (with_reducible first | exact HB.out | apply below_alloc | apply Go.Proofs.YtjjkagjdbjpikaaDoor.Ext.below_bytes | apply pw_below_drewN | apply below_drew1) | exact HB.out)))); have n1_ := Aside0.mk (below_step (by repeat (first | (with_reducible first | exact HB.out | apply below_alloc | apply Go.Proofs.YtjjkagjdbjpikaaDoor.Ext.below_bytes | apply pw_below_drewN | apply below_drew1) | exact HB.out)) hb); clear HB; have HO141 := n0_; have HB := n1_; clear n0_ n1_; clear hb ho16; obtain ⟨Ao17, co17, eo17⟩ := Kd.R_slice HO141.out; subst eo17) | ((with_reducible refine gate_callee (f := 13) rfl ?_); refine goesL_ (some 10) rfl rfl Tryd.func13 (by kernel_rfl) rfl #[.slice Ao17 y139.length co17] rfl (by (try simp only [List.map_toArray, List.map_cons, List.map_nil]); first | done | rfl | (simp only [List.length_drop, List.length_take]; rfl) | (simp [Act.eval, *]; done) | (simp [Act.eval, *]; unfold wrap64; omega)) ?_; (with_reducible refine (laws_makeShort.calls k _ _ y139 true _ ?side1 ?side2 A4.out).mono ?_); (case side1 => repeat (first | exact (Kd.R_reads' HO141.out).2.2 | (with_reducible refine Kd.C_alloc ?_ _) | (with_reducible refine Kd.C_drewN ?_ _) | (with_reducible refine Kd.C_drew ?_))); (case side2 => exact (Kd.R_reads' HO141.out).2.1); rintro e w' ⟨rfl, ⟨nd, rfl⟩⟩; refine ⟨_, rfl, ?_⟩) | ((with_reducible refine gate_callee (f := 14) rfl ?_); refine goesL_ (some 13) rfl rfl Tryd.func14 (by kernel_rfl) rfl #[] rfl (by (try simp only [List.map_toArray, List.map_cons, List.map_nil]); first | done | rfl | (simp only [List.length_drop, List.length_take]; rfl) | (simp [Act.eval, *]; done) | (simp [Act.eval, *]; unfold wrap64; omega)) ?_; (with_reducible refine (laws_makeAwake.calls  false _ ?side1 A6.out).mono ?_); (case side1 => exact HLD.out.below (by repeat (first | (with_reducible first | exact HB.out | apply below_alloc | apply Go.Proofs.YtjjkagjdbjpikaaDoor.Ext.below_bytes | apply pw_below_drewN | apply below_drew1) | exact HB.out))); rintro e w18 ⟨rfl, hb⟩; refine ⟨_, rfl, ?_⟩; have n0_ := Aside0.mk (Kd.R_below (by (with_reducible repeat (first | apply Kd.R_alloc | apply Go.Proofs.YtjjkagjdbjpikaaDoor.Ext.R_bytes | apply Kd.R_drewN | apply Kd.R_drew)); exact HO141.out) hb); have n1_ := Aside0.mk (below_step (by repeat (first | (with_reducible first | exact HB.out | apply below_alloc | apply Go.Proofs.YtjjkagjdbjpikaaDoor.Ext.below_bytes | apply pw_below_drewN | apply below_drew1) | exact HB.out)) hb); clear HO141; clear HB; have HO141 := n0_; have HB := n1_; clear n0_ n1_; (try clear hb); (try clear hb2); (try clear hk); (try clear hi)))
        go_ret
        exact ⟨by first | rfl | (simp [errW_none, errW_some] <;> rfl) | (simp [*, errW_none, errW_some] <;> rfl), by repeat (first | (with_reducible first | exact HB.out | apply below_alloc | apply Go.Proofs.YtjjkagjdbjpikaaDoor.Ext.below_bytes | apply pw_below_drewN | apply below_drew1) | exact HB.out)⟩
    · replace c5 := Bool.eq_false_iff.mpr c5
      subst c5
      have H1 : ((laws_makeAwake.f).bind fun t146 => (some t146)) = some r := by rw [if_neg (show ¬ (false = true) by decide)] at H; exact H
      clear H
      have H := H1
      clear H1
      replace H := Option.bind_eq_some_iff.mp H
      obtain ⟨t146, A190, H⟩ := H
      replace H : (some t146) = some r := H
      have A19 := Aside0.mk A190
      clear A190
      obtain rfl := Option.some.inj H
      go_enter Tryd.func5, Tryd.ntmps5
      go_wp2_with (first | ((with_reducible refine gate_dst (N := 9) rfl ?_); refine Kd.R_lit Kd.string _ 9 ?hg (N := 9) ?hd (xs := ([a0] : List ByteArray)) (inner := [.string a0]) (ok := fun _ => True) (okp := fun _ => True) ?hr ?hp (fun _ hk => hk) trivial (Below.refl _ _) (Nat.le_refl _) (by simp) ?_; (case hd => rfl); (case hg => rfl); (case hr => first | (go_simp; done) | (go_simp; rfl)); (case hp => exact (Reps.one (show Kd.M Kd.string _ _ _ a0 [.string a0] from rfl) (Reps.none _ _))); intro v140 w20 ho21 hb hg_ hnew_; clear hg_ hnew_; (first | rw [← Ny139.out] at ho21 | (simp only [Int.reduceToNat] at ho21; rw [← Ny139.out] at ho21)); have n0_ := Aside0.mk (Kd.R_lower ho21 (below_size (by repeat (first | (with_reducible first | exact HB.out | apply below_alloc | apply Go.Proofs.YtjjkagjdbjpikaaDoor.Ext.below_bytes | apply pw_below_drewN | apply below_drew1) | exact HB.out)))); have n1_ := Aside0.mk (below_step (by repeat (first | (with_reducible first | exact HB.out | apply below_alloc | apply Go.Proofs.YtjjkagjdbjpikaaDoor.Ext.below_bytes | apply pw_below_drewN | apply below_drew1) | exact HB.out)) hb); clear HB; have HO141 := n0_; have HB := n1_; clear n0_ n1_; clear hb ho21; obtain ⟨Ao22, co22, eo22⟩ := Kd.R_slice HO141.out; subst eo22) | ((with_reducible refine gate_callee (f := 13) rfl ?_); refine goesL_ (some 10) rfl rfl Tryd.func13 (by kernel_rfl) rfl #[.slice Ao22 y139.length co22] rfl (by (try simp only [List.map_toArray, List.map_cons, List.map_nil]); first | done | rfl | (simp only [List.length_drop, List.length_take]; rfl) | (simp [Act.eval, *]; done) | (simp [Act.eval, *]; unfold wrap64; omega)) ?_; (with_reducible refine (laws_makeShort.calls k _ _ y139 false _ ?side1 ?side2 A4.out).mono ?_); (case side1 => repeat (first | exact (Kd.R_reads' HO141.out).2.2 | (with_reducible refine Kd.C_alloc ?_ _) | (with_reducible refine Kd.C_drewN ?_ _) | (with_reducible refine Kd.C_drew ?_))); (case side2 => exact (Kd.R_reads' HO141.out).2.1); rintro e w' ⟨rfl, ⟨nd, rfl⟩⟩; refine ⟨_, rfl, ?_⟩) | ((with_reducible refine gate_callee (f := 14) rfl ?_); refine goesL_ (some 12) rfl rfl Tryd.func14 (by kernel_rfl) rfl #[] rfl (by (try simp only [List.map_toArray, List.map_cons, List.map_nil]); first | done | rfl | (simp only [List.length_drop, List.length_take]; rfl) | (simp [Act.eval, *]; done) | (simp [Act.eval, *]; unfold wrap64; omega)) ?_; (with_reducible refine (laws_makeAwake.calls  t146 _ ?side1 A19.out).mono ?_); (case side1 => exact HLD.out.below (by repeat (first | (with_reducible first | exact HB.out | apply below_alloc | apply Go.Proofs.YtjjkagjdbjpikaaDoor.Ext.below_bytes | apply pw_below_drewN | apply below_drew1) | exact HB.out))); rintro e w23 ⟨rfl, hb⟩; refine ⟨_, rfl, ?_⟩; have n0_ := Aside0.mk (Kd.R_below (by (with_reducible repeat (first | apply Kd.R_alloc | apply Go.Proofs.YtjjkagjdbjpikaaDoor.Ext.R_bytes | apply Kd.R_drewN | apply Kd.R_drew)); exact HO141.out) hb); have n1_ := Aside0.mk (below_step (by repeat (first | (with_reducible first | exact HB.out | apply below_alloc | apply Go.Proofs.YtjjkagjdbjpikaaDoor.Ext.below_bytes | apply pw_below_drewN | apply below_drew1) | exact HB.out)) hb); clear HO141; clear HB; have HO141 := n0_; have HB := n1_; clear n0_ n1_; (try clear hb); (try clear hb2); (try clear hk); (try clear hi)))
      go_ret
      exact ⟨by first | rfl | (simp [errW_none, errW_some] <;> rfl) | (simp [*, errW_none, errW_some] <;> rfl), by repeat (first | (with_reducible first | exact HB.out | apply below_alloc | apply Go.Proofs.YtjjkagjdbjpikaaDoor.Ext.below_bytes | apply pw_below_drewN | apply below_drew1) | exact HB.out)⟩

/-- THE ONE PURE STATEMENT of laws_FnScreen: yours. -/
def laws_FnScreen.Pure : Prop := ∀ (a0 : ByteArray) (a1 : Int), a0.size ≤ 140737488351232 → (Lit.int .i64 a1).wf = true → ∃ k, laws_FnScreen.f k a0 a1 = some true
theorem laws_FnScreen.walk (P : laws_FnScreen.Pure) (a0 : ByteArray) (a1 : Int) (w : World) (hLD : Laid w) (w0 : a0.size ≤ 140737488351232) (w1 : (Lit.int .i64 a1).wf = true) :
    Calls Tryd.prog 5 #[.string a0, .int .i64 a1] w fun e w' => e = .returned (.bool true) ∧ Below w.heap.size w w' := by
  obtain ⟨k, h⟩ := P a0 a1 w0 w1
  refine (laws_FnScreen.calls k a0 a1 true w hLD h).mono ?_
  rintro e w' ⟨rfl, hd⟩
  exact ⟨rfl, hd⟩

end Go.Proofs.YtjjkagjdbjpikaaDoor.PS
