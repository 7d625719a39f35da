-- Written by wip/pp.py, a program of this session, out of the translation. Not trusted: Lean checks it.
import Derived.Test.YtohblegfpghejaaDoorPBx0
namespace Go.Proofs.YtohblegfpghejaaDoor.PB
open Go.RowKit Go.Proofs.YtohblegfpghejaaDoor.Or Go.Proofs.YtohblegfpghejaaDoorW.PrintWords Go.Proofs.YtohblegfpghejaaDoorW.PrintLast Go.Proofs.YtohblegfpghejaaDoorW.PrintMore
attribute [local go_sem] max2_int min2_int max_two min_two max_three min_three max_four min_four   -- for this text's walks alone
attribute [local go_sem] Go.Proofs.YtohblegfpghejaaDoor.Ext.wrap64_mod256 Go.Proofs.YtohblegfpghejaaDoor.Ext.wrap64_mod32 Go.Proofs.YtohblegfpghejaaDoor.Ext.i64_mod256 Go.Proofs.YtohblegfpghejaaDoor.Ext.i64_mod32 Go.Proofs.YtohblegfpghejaaDoor.Ext.i64_u8 Go.Proofs.YtohblegfpghejaaDoor.Ext.w64_u8 Go.Proofs.YtohblegfpghejaaDoor.Ext.i64_u32 Go.Proofs.YtohblegfpghejaaDoor.Ext.w64_u32 
set_option linter.unusedVariables false
set_option linter.unusedSimpArgs false

/-! ### xansi_EncodeMouseButton: function 27 -/
mutual
def xansi_EncodeMouseButton.j2 : Nat → Bool → Bool → Bool → Bool → Int → Option (Int)
  | 0, _, _, _, _, _ => none
  | k + 1, x1, x2, x3, x4, x10 => if x2 = true then (xansi_EncodeMouseButton.j3 k x1 x3 x4 (Go.bits .or .u8 x10 4)) else (xansi_EncodeMouseButton.j3 k x1 x3 x4 x10)
def xansi_EncodeMouseButton.j3 : Nat → Bool → Bool → Bool → Int → Option (Int)
  | 0, _, _, _, _ => none
  | k + 1, x1, x3, x4, x10 => if x3 = true then (xansi_EncodeMouseButton.j4 k x1 x4 (Go.bits .or .u8 x10 8)) else (xansi_EncodeMouseButton.j4 k x1 x4 x10)
def xansi_EncodeMouseButton.j4 : Nat → Bool → Bool → Int → Option (Int)
  | 0, _, _, _ => none
  | k + 1, x1, x4, x10 => if x4 = true then (if x1 = true then (some (Go.bits .or .u8 (Go.bits .or .u8 x10 16) 32)) else (some (Go.bits .or .u8 x10 16))) else (if x1 = true then (some (Go.bits .or .u8 x10 32)) else (some x10))
def xansi_EncodeMouseButton.j0 : Nat → Int → Bool → Bool → Bool → Bool → Bool → Option (Int)
  | 0, _, _, _, _, _, _ => none
  | k + 1, x0, x1, x2, x3, x4, x18 => if x18 = true then (xansi_EncodeMouseButton.j2 k x1 x2 x3 x4 ((x0 - 1) % 256)) else (if x0 ≥ 4 then (xansi_EncodeMouseButton.j1 k x0 x1 x2 x3 x4 (decide (x0 ≤ 7))) else (xansi_EncodeMouseButton.j1 k x0 x1 x2 x3 x4 false))
def xansi_EncodeMouseButton.j1 : Nat → Int → Bool → Bool → Bool → Bool → Bool → Option (Int)
  | 0, _, _, _, _, _, _ => none
  | k + 1, x0, x1, x2, x3, x4, x26 => if x26 = true then (xansi_EncodeMouseButton.j2 k x1 x2 x3 x4 (Go.bits .or .u8 ((x0 - 4) % 256) 64)) else (if x0 ≥ 8 then (if x0 ≤ 11 then (xansi_EncodeMouseButton.j2 k x1 x2 x3 x4 (Go.bits .or .u8 ((x0 - 8) % 256) 128)) else (xansi_EncodeMouseButton.j2 k x1 x2 x3 x4 255)) else (xansi_EncodeMouseButton.j2 k x1 x2 x3 x4 255))
end
def xansi_EncodeMouseButton.f (k : Nat) (a0 : Int) (a1 : Bool) (a2 : Bool) (a3 : Bool) (a4 : Bool) : Option (Int) := if a0 = 0 then (xansi_EncodeMouseButton.j2 k a1 a2 a3 a4 3) else (if a0 ≥ 1 then (xansi_EncodeMouseButton.j0 k a0 a1 a2 a3 a4 (decide (a0 ≤ 3))) else (xansi_EncodeMouseButton.j0 k a0 a1 a2 a3 a4 false))
theorem xansi_EncodeMouseButton.mono_l : ∀ k, (∀ y0 y1 y2 y3 y4, LeO (xansi_EncodeMouseButton.j2 k y0 y1 y2 y3 y4) (xansi_EncodeMouseButton.j2 (k + 1) y0 y1 y2 y3 y4)) ∧ (∀ y0 y1 y2 y3, LeO (xansi_EncodeMouseButton.j3 k y0 y1 y2 y3) (xansi_EncodeMouseButton.j3 (k + 1) y0 y1 y2 y3)) ∧ (∀ y0 y1 y2, LeO (xansi_EncodeMouseButton.j4 k y0 y1 y2) (xansi_EncodeMouseButton.j4 (k + 1) y0 y1 y2)) ∧ (∀ y0 y1 y2 y3 y4 y5, LeO (xansi_EncodeMouseButton.j0 k y0 y1 y2 y3 y4 y5) (xansi_EncodeMouseButton.j0 (k + 1) y0 y1 y2 y3 y4 y5)) ∧ (∀ y0 y1 y2 y3 y4 y5, LeO (xansi_EncodeMouseButton.j1 k y0 y1 y2 y3 y4 y5) (xansi_EncodeMouseButton.j1 (k + 1) y0 y1 y2 y3 y4 y5))
  | 0 => ⟨fun _ _ _ _ _ r h => by simp [xansi_EncodeMouseButton.j2] at h, fun _ _ _ _ r h => by simp [xansi_EncodeMouseButton.j3] at h, fun _ _ _ r h => by simp [xansi_EncodeMouseButton.j4] at h, fun _ _ _ _ _ _ r h => by simp [xansi_EncodeMouseButton.j0] at h, fun _ _ _ _ _ _ r h => by simp [xansi_EncodeMouseButton.j1] at h⟩
  | k + 1 => by
    obtain ⟨ih0, ih1, ih2, ih3, ih4⟩ := xansi_EncodeMouseButton.mono_l k
    refine ⟨?_, ?_, ?_, ?_, ?_⟩
    · intro y0 y1 y2 y3 y4
      unfold xansi_EncodeMouseButton.j2
      repeat' first
      | (with_reducible exact ih0 _ _ _ _ _)
      | (with_reducible exact ih1 _ _ _ _)
      | (with_reducible exact ih2 _ _ _)
      | (with_reducible exact ih3 _ _ _ _ _ _)
      | (with_reducible exact ih4 _ _ _ _ _ _)
      | (with_reducible exact LeO.refl _)
      | (with_reducible exact LeO.none _)
      | (with_reducible refine LeO.ite ?_ ?_)
      | (with_reducible refine LeO.bind ?_ (fun _ => ?_))
      | exact ih0 _ _ _ _ _
      | exact ih1 _ _ _ _
      | exact ih2 _ _ _
      | exact ih3 _ _ _ _ _ _
      | exact ih4 _ _ _ _ _ _
      | exact LeO.none _
      | refine LeO.ite ?_ ?_
      | refine LeO.bind ?_ (fun _ => ?_)
    · intro y0 y1 y2 y3
      unfold xansi_EncodeMouseButton.j3
      repeat' first
      | (with_reducible exact ih0 _ _ _ _ _)
      | (with_reducible exact ih1 _ _ _ _)
      | (with_reducible exact ih2 _ _ _)
      | (with_reducible exact ih3 _ _ _ _ _ _)
      | (with_reducible exact ih4 _ _ _ _ _ _)
      | (with_reducible exact LeO.refl _)
      | (with_reducible exact LeO.none _)
      | (with_reducible refine LeO.ite ?_ ?_)
      | (with_reducible refine LeO.bind ?_ (fun _ => ?_))
      | exact ih0 _ _ _ _ _
      | exact ih1 _ _ _ _
      | exact ih2 _ _ _
      | exact ih3 _ _ _ _ _ _
      | exact ih4 _ _ _ _ _ _
      | exact LeO.none _
      | refine LeO.ite ?_ ?_
      | refine LeO.bind ?_ (fun _ => ?_)
    · intro y0 y1 y2
      unfold xansi_EncodeMouseButton.j4
      repeat' first
      | (with_reducible exact ih0 _ _ _ _ _)
      | (with_reducible exact ih1 _ _ _ _)
      | (with_reducible exact ih2 _ _ _)
      | (with_reducible exact ih3 _ _ _ _ _ _)
      | (with_reducible exact ih4 _ _ _ _ _ _)
      | (with_reducible exact LeO.refl _)
      | (with_reducible exact LeO.none _)
      | (with_reducible refine LeO.ite ?_ ?_)
      | (with_reducible refine LeO.bind ?_ (fun _ => ?_))
      | exact ih0 _ _ _ _ _
      | exact ih1 _ _ _ _
      | exact ih2 _ _ _
      | exact ih3 _ _ _ _ _ _
      | exact ih4 _ _ _ _ _ _
      | exact LeO.none _
      | refine LeO.ite ?_ ?_
      | refine LeO.bind ?_ (fun _ => ?_)
    · intro y0 y1 y2 y3 y4 y5
      unfold xansi_EncodeMouseButton.j0
      repeat' first
      | (with_reducible exact ih0 _ _ _ _ _)
      | (with_reducible exact ih1 _ _ _ _)
      | (with_reducible exact ih2 _ _ _)
      | (with_reducible exact ih3 _ _ _ _ _ _)
      | (with_reducible exact ih4 _ _ _ _ _ _)
      | (with_reducible exact LeO.refl _)
      | (with_reducible exact LeO.none _)
      | (with_reducible refine LeO.ite ?_ ?_)
      | (with_reducible refine LeO.bind ?_ (fun _ => ?_))
      | exact ih0 _ _ _ _ _
      | exact ih1 _ _ _ _
      | exact ih2 _ _ _
      | exact ih3 _ _ _ _ _ _
      | exact ih4 _ _ _ _ _ _
      | exact LeO.none _
      | refine LeO.ite ?_ ?_
      | refine LeO.bind ?_ (fun _ => ?_)
    · intro y0 y1 y2 y3 y4 y5
      unfold xansi_EncodeMouseButton.j1
      repeat' first
      | (with_reducible exact ih0 _ _ _ _ _)
      | (with_reducible exact ih1 _ _ _ _)
      | (with_reducible exact ih2 _ _ _)
      | (with_reducible exact ih3 _ _ _ _ _ _)
      | (with_reducible exact ih4 _ _ _ _ _ _)
      | (with_reducible exact LeO.refl _)
      | (with_reducible exact LeO.none _)
      | (with_reducible refine LeO.ite ?_ ?_)
      | (with_reducible refine LeO.bind ?_ (fun _ => ?_))
      | exact ih0 _ _ _ _ _
      | exact ih1 _ _ _ _
      | exact ih2 _ _ _
      | exact ih3 _ _ _ _ _ _
      | exact ih4 _ _ _ _ _ _
      | exact LeO.none _
      | refine LeO.ite ?_ ?_
      | refine LeO.bind ?_ (fun _ => ?_)
theorem xansi_EncodeMouseButton.mono : ∀ a0 a1 a2 a3 a4 k, LeO (xansi_EncodeMouseButton.f k a0 a1 a2 a3 a4) (xansi_EncodeMouseButton.f (k + 1) a0 a1 a2 a3 a4) := by
  intro a0 a1 a2 a3 a4 k
  obtain ⟨ih0, ih1, ih2, ih3, ih4⟩ := xansi_EncodeMouseButton.mono_l k
  unfold xansi_EncodeMouseButton.f
  repeat' first
      | (with_reducible exact ih0 _ _ _ _ _)
      | (with_reducible exact ih1 _ _ _ _)
      | (with_reducible exact ih2 _ _ _)
      | (with_reducible exact ih3 _ _ _ _ _ _)
      | (with_reducible exact ih4 _ _ _ _ _ _)
      | (with_reducible exact LeO.refl _)
      | (with_reducible exact LeO.none _)
      | (with_reducible refine LeO.ite ?_ ?_)
      | (with_reducible refine LeO.bind ?_ (fun _ => ?_))
      | exact ih0 _ _ _ _ _
      | exact ih1 _ _ _ _
      | exact ih2 _ _ _
      | exact ih3 _ _ _ _ _ _
      | exact ih4 _ _ _ _ _ _
      | exact LeO.none _
      | refine LeO.ite ?_ ?_
      | refine LeO.bind ?_ (fun _ => ?_)
set_option maxHeartbeats 8000000 in
set_option maxRecDepth 100000 in
theorem xansi_EncodeMouseButton.calls (k : Nat) (a0 : Int) (a1 : Bool) (a2 : Bool) (a3 : Bool) (a4 : Bool) (r : Int) (w : World) (h : xansi_EncodeMouseButton.f k a0 a1 a2 a3 a4 = some r) :
    Calls Tryd.prog 27 #[.int .u8 a0, .bool a1, .bool a2, .bool a3, .bool a4] w fun e w' => e = .returned (.int .u8 r) ∧ Drawn0 w w' := by
  have H : (if a0 = 0 then (xansi_EncodeMouseButton.j2 k a1 a2 a3 a4 3) else (if a0 ≥ 1 then (xansi_EncodeMouseButton.j0 k a0 a1 a2 a3 a4 (decide (a0 ≤ 3))) else (xansi_EncodeMouseButton.j0 k a0 a1 a2 a3 a4 false))) = some r := h
  clear h
  have HC6 := Aside0.mk H
  clear H
  go_enter Tryd.func27, Tryd.ntmps27
  go_upto_if 12 with (fail)
  go_cut [10] (fun v10 wc => ∃ (kq : Nat) (x10_5 : Int), v10 = .int .u8 x10_5 ∧ Aside0 (xansi_EncodeMouseButton.j2 kq a1 a2 a3 a4 x10_5 = some r) ∧ Aside0 (kq ≤ k) ∧ Drawn0 w wc)
  case first =>
    have H := HC6.out
    clear HC6
    by_cases c7 : a0 = 0
    · rw [if_pos c7] at H
      have c7b0 : (a0 == 0) = true := beq_iff_eq.mpr c7
      have c7b1 : (a0 != 0) = false := bne_eq_false_iff_eq.mpr c7
      clear c7
      (first | rw [c7b0] | (simp only [i64_w, i32_w]; rw [c7b0]) | skip)
      have H' := Aside0.mk H
      clear H
      go_wp2
      go_meet
      case rel => exact ⟨_, (3), (by first | rfl | (simp; done) | (simp [*]; done)), H', ⟨by first | omega | exact Nat.le_refl _⟩, by repeat (first | exact Drawn0.refl _ | apply Drawn0.step)⟩
    · rw [if_neg c7] at H
      have c7b0 : (a0 == 0) = false := beq_eq_false_iff_ne.mpr c7
      have c7b1 : (a0 != 0) = true := bne_iff_ne.mpr c7
      (first | rw [c7b0] | (simp only [i64_w, i32_w]; rw [c7b0]) | skip)
      have HC8 := Aside0.mk H
      clear H
      go_upto_region 3 with (fail)
      go_cut [18] (fun v18 wc => ∃ (kq : Nat) (x18_7 : Bool), v18 = .bool x18_7 ∧ Aside0 (xansi_EncodeMouseButton.j0 kq a0 a1 a2 a3 a4 x18_7 = some r) ∧ Aside0 (kq ≤ k) ∧ Drawn0 w wc)
      case first =>
        have H := HC8.out
        clear HC8
        by_cases c9 : a0 ≥ 1
        · rw [if_pos c9] at H
          have c9b0 : decide (1 ≤ a0) = true := decide_eq_true c9
          clear c9
          (first | rw [c9b0] | (simp only [i64_w, i32_w]; rw [c9b0]) | skip)
          have H' := Aside0.mk H
          clear H
          go_wp2
          go_meet
          case rel => exact ⟨_, (decide (a0 ≤ 3)), (by first | rfl | (simp; done) | (simp [*]; done)), H', ⟨by first | omega | exact Nat.le_refl _⟩, by repeat (first | exact Drawn0.refl _ | apply Drawn0.step)⟩
        · rw [if_neg c9] at H
          have c9b0 : decide (1 ≤ a0) = false := decide_eq_false c9
          clear c9
          (first | rw [c9b0] | (simp only [i64_w, i32_w]; rw [c9b0]) | skip)
          have H' := Aside0.mk H
          clear H
          go_wp2
          go_meet
          case rel => exact ⟨_, (false), (by first | rfl | (simp; done) | (simp [*]; done)), H', ⟨by first | omega | exact Nat.le_refl _⟩, by repeat (first | exact Drawn0.refl _ | apply Drawn0.step)⟩
      case rest =>
        clear HC8
        try clear c2
        try clear p2
        try clear c7
        try clear c7b0
        try clear c7b1
        try clear c9
        try clear c9b0
        obtain ⟨kq, x18_7, rfl, HA, HJ7, ⟨mc7, rfl⟩⟩ := hcut
        cases kq with
        | zero => exact absurd HA.out (by simp [xansi_EncodeMouseButton.j0])
        | succ kj7 =>
          have H := HA.out
          clear HA
          simp only [xansi_EncodeMouseButton.j0] at H
          by_cases c10 : x18_7 = true
          · subst c10
            have H1 : (xansi_EncodeMouseButton.j2 kj7 a1 a2 a3 a4 ((a0 - 1) % 256)) = some r := by rw [if_pos rfl] at H; exact H
            clear H
            have H := H1
            clear H1
            have H' := Aside0.mk H
            clear H
            go_wp2
            go_meet
            case rel => exact ⟨_, ((a0 - 1) % 256), (by first | rfl | (simp; done) | (simp [*]; done)), H', ⟨by have := HJ7.out; first | omega | exact Nat.le_refl _⟩, by repeat (first | exact Drawn0.refl _ | apply Drawn0.step)⟩
          · replace c10 := Bool.eq_false_iff.mpr c10
            subst c10
            have H1 : (if a0 ≥ 4 then (xansi_EncodeMouseButton.j1 kj7 a0 a1 a2 a3 a4 (decide (a0 ≤ 7))) else (xansi_EncodeMouseButton.j1 kj7 a0 a1 a2 a3 a4 false)) = some r := by rw [if_neg (show ¬ (false = true) by decide)] at H; exact H
            clear H
            have H := H1
            clear H1
            have HC11 := Aside0.mk H
            clear H
            go_upto_region 5 with (fail)
            go_cut [26] (fun v26 wc => ∃ (kq : Nat) (x26_10 : Bool), v26 = .bool x26_10 ∧ Aside0 (xansi_EncodeMouseButton.j1 kq a0 a1 a2 a3 a4 x26_10 = some r) ∧ Aside0 (kq ≤ kj7) ∧ Drawn0 w wc)
            case first =>
              have H := HC11.out
              clear HC11
              by_cases c12 : a0 ≥ 4
              · rw [if_pos c12] at H
                have c12b0 : decide (4 ≤ a0) = true := decide_eq_true c12
                clear c12
                (first | rw [c12b0] | (simp only [i64_w, i32_w]; rw [c12b0]) | skip)
                have H' := Aside0.mk H
                clear H
                go_wp2
                go_meet
                case rel => exact ⟨_, (decide (a0 ≤ 7)), (by first | rfl | (simp; done) | (simp [*]; done)), H', ⟨by have := HJ7.out; first | omega | exact Nat.le_refl _⟩, by repeat (first | exact Drawn0.refl _ | apply Drawn0.step)⟩
              · rw [if_neg c12] at H
                have c12b0 : decide (4 ≤ a0) = false := decide_eq_false c12
                clear c12
                (first | rw [c12b0] | (simp only [i64_w, i32_w]; rw [c12b0]) | skip)
                have H' := Aside0.mk H
                clear H
                go_wp2
                go_meet
                case rel => exact ⟨_, (false), (by first | rfl | (simp; done) | (simp [*]; done)), H', ⟨by have := HJ7.out; first | omega | exact Nat.le_refl _⟩, by repeat (first | exact Drawn0.refl _ | apply Drawn0.step)⟩
            case rest =>
              clear HC11
              try clear c1
              try clear c2
              try clear p2
              try clear c7
              try clear c7b0
              try clear c7b1
              try clear c9
              try clear c9b0
              try clear c10
              try clear c12
              try clear c12b0
              try clear p2
              obtain ⟨kq, x26_10, rfl, HA, HJ10, ⟨mc10, rfl⟩⟩ := hcut
              cases kq with
              | zero => exact absurd HA.out (by simp [xansi_EncodeMouseButton.j1])
              | succ kj10 =>
                have H := HA.out
                clear HA
                simp only [xansi_EncodeMouseButton.j1] at H
                by_cases c13 : x26_10 = true
                · subst c13
                  have H1 : (xansi_EncodeMouseButton.j2 kj10 a1 a2 a3 a4 (Go.bits .or .u8 ((a0 - 4) % 256) 64)) = some r := by rw [if_pos rfl] at H; exact H
                  clear H
                  have H := H1
                  clear H1
                  have H' := Aside0.mk H
                  clear H
                  go_wp2
                  go_meet
                  case rel => exact ⟨_, (Go.bits .or .u8 ((a0 - 4) % 256) 64), (by first | rfl | (simp; done) | (simp [*]; done)), H', ⟨by have := HJ7.out; have := HJ10.out; first | omega | exact Nat.le_refl _⟩, by repeat (first | exact Drawn0.refl _ | apply Drawn0.step)⟩
                · replace c13 := Bool.eq_false_iff.mpr c13
                  subst c13
                  have H1 : (if a0 ≥ 8 then (if a0 ≤ 11 then (xansi_EncodeMouseButton.j2 kj10 a1 a2 a3 a4 (Go.bits .or .u8 ((a0 - 8) % 256) 128)) else (xansi_EncodeMouseButton.j2 kj10 a1 a2 a3 a4 255)) else (xansi_EncodeMouseButton.j2 kj10 a1 a2 a3 a4 255)) = some r := by rw [if_neg (show ¬ (false = true) by decide)] at H; exact H
                  clear H
                  have H := H1
                  clear H1
                  by_cases c14 : a0 ≥ 8
                  · rw [if_pos c14] at H
                    have c14b0 : decide (8 ≤ a0) = true := decide_eq_true c14
                    clear c14
                    by_cases c15 : a0 ≤ 11
                    · rw [if_pos c15] at H
                      have c15b0 : decide (a0 ≤ 11) = true := decide_eq_true c15
                      clear c15
                      have H' := Aside0.mk H
                      clear H
                      go_wp2
                      go_meet
                      case rel => exact ⟨_, (Go.bits .or .u8 ((a0 - 8) % 256) 128), (by first | rfl | (simp; done) | (simp [*]; done)), H', ⟨by have := HJ7.out; have := HJ10.out; first | omega | exact Nat.le_refl _⟩, by repeat (first | exact Drawn0.refl _ | apply Drawn0.step)⟩
                    · rw [if_neg c15] at H
                      have c15b0 : decide (a0 ≤ 11) = false := decide_eq_false c15
                      clear c15
                      have H' := Aside0.mk H
                      clear H
                      go_wp2
                      go_meet
                      case rel => exact ⟨_, (255), (by first | rfl | (simp; done) | (simp [*]; done)), H', ⟨by have := HJ7.out; have := HJ10.out; first | omega | exact Nat.le_refl _⟩, by repeat (first | exact Drawn0.refl _ | apply Drawn0.step)⟩
                  · rw [if_neg c14] at H
                    have c14b0 : decide (8 ≤ a0) = false := decide_eq_false c14
                    clear c14
                    have H' := Aside0.mk H
                    clear H
                    go_wp2
                    go_meet
                    case rel => exact ⟨_, (255), (by first | rfl | (simp; done) | (simp [*]; done)), H', ⟨by have := HJ7.out; have := HJ10.out; first | omega | exact Nat.le_refl _⟩, by repeat (first | exact Drawn0.refl _ | apply Drawn0.step)⟩
  case rest =>
    clear HC6
    try clear c1
    try clear c2
    try clear p2
    try clear c7
    try clear c7b0
    try clear c7b1
    try clear c9
    try clear c9b0
    try clear c10
    try clear c12
    try clear c12b0
    try clear c13
    try clear c14
    try clear c14b0
    try clear c15
    try clear c15b0
    try clear p2
    obtain ⟨kq, x10_5, rfl, HA, HJ5, ⟨mc5, rfl⟩⟩ := hcut
    cases kq with
    | zero => exact absurd HA.out (by simp [xansi_EncodeMouseButton.j2])
    | succ kj5 =>
      have H := HA.out
      clear HA
      simp only [xansi_EncodeMouseButton.j2] at H
      have HC16 := Aside0.mk H
      clear H
      go_upto_if 41 with (fail)
      go_cut [10] (fun v10 wc => ∃ (kq : Nat) (x10_15 : Int), v10 = .int .u8 x10_15 ∧ Aside0 (xansi_EncodeMouseButton.j3 kq a1 a3 a4 x10_15 = some r) ∧ Aside0 (kq ≤ kj5) ∧ Drawn0 w wc)
      case first =>
        have H := HC16.out
        clear HC16
        by_cases c17 : a2 = true
        · subst c17
          have H1 : (xansi_EncodeMouseButton.j3 kj5 a1 a3 a4 (Go.bits .or .u8 x10_5 4)) = some r := by rw [if_pos rfl] at H; exact H
          clear H
          have H := H1
          clear H1
          have H' := Aside0.mk H
          clear H
          go_wp2
          go_meet
          case rel => exact ⟨_, (Go.bits .or .u8 x10_5 4), (by first | rfl | (simp; done) | (simp [*]; done)), H', ⟨by have := HJ5.out; first | omega | exact Nat.le_refl _⟩, by repeat (first | exact Drawn0.refl _ | apply Drawn0.step)⟩
        · replace c17 := Bool.eq_false_iff.mpr c17
          subst c17
          have H1 : (xansi_EncodeMouseButton.j3 kj5 a1 a3 a4 x10_5) = some r := by rw [if_neg (show ¬ (false = true) by decide)] at H; exact H
          clear H
          have H := H1
          clear H1
          have H' := Aside0.mk H
          clear H
          go_wp2
          go_meet
          case rel => exact ⟨_, (x10_5), (by first | rfl | (simp; done) | (simp [*]; done)), H', ⟨by have := HJ5.out; first | omega | exact Nat.le_refl _⟩, by repeat (first | exact Drawn0.refl _ | apply Drawn0.step)⟩
      case rest =>
        clear HC16
        try clear c1
        try clear c2
        try clear p2
        try clear c5
        try clear c7
        try clear c7b0
        try clear c7b1
        try clear c9
        try clear c9b0
        try clear c10
        try clear c12
        try clear c12b0
        try clear c13
        try clear c14
        try clear c14b0
        try clear c15
        try clear c15b0
        try clear c17
        try clear p2
        obtain ⟨kq, x10_15, rfl, HA, HJ15, ⟨mc15, rfl⟩⟩ := hcut
        cases kq with
        | zero => exact absurd HA.out (by simp [xansi_EncodeMouseButton.j3])
        | succ kj15 =>
          have H := HA.out
          clear HA
          simp only [xansi_EncodeMouseButton.j3] at H
          have HC18 := Aside0.mk H
          clear H
          go_upto_if 44 with (fail)
          go_cut [10] (fun v10 wc => ∃ (kq : Nat) (x10_17 : Int), v10 = .int .u8 x10_17 ∧ Aside0 (xansi_EncodeMouseButton.j4 kq a1 a4 x10_17 = some r) ∧ Aside0 (kq ≤ kj15) ∧ Drawn0 w wc)
          case first =>
            have H := HC18.out
            clear HC18
            by_cases c19 : a3 = true
            · subst c19
              have H1 : (xansi_EncodeMouseButton.j4 kj15 a1 a4 (Go.bits .or .u8 x10_15 8)) = some r := by rw [if_pos rfl] at H; exact H
              clear H
              have H := H1
              clear H1
              have H' := Aside0.mk H
              clear H
              go_wp2
              go_meet
              case rel => exact ⟨_, (Go.bits .or .u8 x10_15 8), (by first | rfl | (simp; done) | (simp [*]; done)), H', ⟨by have := HJ5.out; have := HJ15.out; first | omega | exact Nat.le_refl _⟩, by repeat (first | exact Drawn0.refl _ | apply Drawn0.step)⟩
            · replace c19 := Bool.eq_false_iff.mpr c19
              subst c19
              have H1 : (xansi_EncodeMouseButton.j4 kj15 a1 a4 x10_15) = some r := by rw [if_neg (show ¬ (false = true) by decide)] at H; exact H
              clear H
              have H := H1
              clear H1
              have H' := Aside0.mk H
              clear H
              go_wp2
              go_meet
              case rel => exact ⟨_, (x10_15), (by first | rfl | (simp; done) | (simp [*]; done)), H', ⟨by have := HJ5.out; have := HJ15.out; first | omega | exact Nat.le_refl _⟩, by repeat (first | exact Drawn0.refl _ | apply Drawn0.step)⟩
          case rest =>
            clear HC18
            try clear c1
            try clear c2
            try clear p2
            try clear c5
            try clear c7
            try clear c7b0
            try clear c7b1
            try clear c9
            try clear c9b0
            try clear c10
            try clear c12
            try clear c12b0
            try clear c13
            try clear c14
            try clear c14b0
            try clear c15
            try clear c15b0
            try clear c17
            try clear c19
            try clear p2
            obtain ⟨kq, x10_17, rfl, HA, HJ17, ⟨mc17, rfl⟩⟩ := hcut
            cases kq with
            | zero => exact absurd HA.out (by simp [xansi_EncodeMouseButton.j4])
            | succ kj17 =>
              have H := HA.out
              clear HA
              simp only [xansi_EncodeMouseButton.j4] at H
              by_cases c20 : a4 = true
              · subst c20
                have H1 : (if a1 = true then (some (Go.bits .or .u8 (Go.bits .or .u8 x10_17 16) 32)) else (some (Go.bits .or .u8 x10_17 16))) = some r := by rw [if_pos rfl] at H; exact H
                clear H
                have H := H1
                clear H1
                by_cases c21 : a1 = true
                · subst c21
                  have H1 : (some (Go.bits .or .u8 (Go.bits .or .u8 x10_17 16) 32)) = some r := by rw [if_pos rfl] at H; exact H
                  clear H
                  have H := H1
                  clear H1
                  obtain rfl := Option.some.inj H
                  go_wp2
                  go_ret
                  exact ⟨by first | rfl | (simp; done) | (simp [*]; done), by repeat (first | exact Drawn0.refl _ | apply Drawn0.step)⟩
                · replace c21 := Bool.eq_false_iff.mpr c21
                  subst c21
                  have H1 : (some (Go.bits .or .u8 x10_17 16)) = some r := by rw [if_neg (show ¬ (false = true) by decide)] at H; exact H
                  clear H
                  have H := H1
                  clear H1
                  obtain rfl := Option.some.inj H
                  go_wp2
                  go_ret
                  exact ⟨by first | rfl | (simp; done) | (simp [*]; done), by repeat (first | exact Drawn0.refl _ | apply Drawn0.step)⟩
              · replace c20 := Bool.eq_false_iff.mpr c20
                subst c20
                have H1 : (if a1 = true then (some (Go.bits .or .u8 x10_17 32)) else (some x10_17)) = some r := by rw [if_neg (show ¬ (false = true) by decide)] at H; exact H
                clear H
                have H := H1
                clear H1
                by_cases c22 : a1 = true
                · subst c22
                  have H1 : (some (Go.bits .or .u8 x10_17 32)) = some r := by rw [if_pos rfl] at H; exact H
                  clear H
                  have H := H1
                  clear H1
                  obtain rfl := Option.some.inj H
                  go_wp2
                  go_ret
                  exact ⟨by first | rfl | (simp; done) | (simp [*]; done), by repeat (first | exact Drawn0.refl _ | apply Drawn0.step)⟩
                · replace c22 := Bool.eq_false_iff.mpr c22
                  subst c22
                  have H1 : (some x10_17) = some r := by rw [if_neg (show ¬ (false = true) by decide)] at H; exact H
                  clear H
                  have H := H1
                  clear H1
                  obtain rfl := Option.some.inj H
                  go_wp2
                  go_ret
                  exact ⟨by first | rfl | (simp; done) | (simp [*]; done), by repeat (first | exact Drawn0.refl _ | apply Drawn0.step)⟩

/-! ### impl_ButtonOf: function 13 -/
def impl_ButtonOf.f (k : Nat) (a0 : Int) (a1 : Bool) (a2 : Bool) (a3 : Bool) (a4 : Bool) : Option (Int) := (xansi_EncodeMouseButton.f k a0 a1 a2 a3 a4).bind fun t175 => (some t175)
theorem impl_ButtonOf.mono : ∀ a0 a1 a2 a3 a4 k, LeO (impl_ButtonOf.f k a0 a1 a2 a3 a4) (impl_ButtonOf.f (k + 1) a0 a1 a2 a3 a4) := by
  intro a0 a1 a2 a3 a4 k
  unfold impl_ButtonOf.f
  repeat' first
      | (with_reducible exact xansi_EncodeMouseButton.mono _ _ _ _ _ _)
      | (with_reducible exact LeO.refl _)
      | (with_reducible exact LeO.none _)
      | (with_reducible refine LeO.ite ?_ ?_)
      | (with_reducible refine LeO.bind ?_ (fun _ => ?_))
      | exact xansi_EncodeMouseButton.mono _ _ _ _ _ _
      | exact LeO.none _
      | refine LeO.ite ?_ ?_
      | refine LeO.bind ?_ (fun _ => ?_)
set_option maxHeartbeats 8000000 in
set_option maxRecDepth 100000 in
theorem impl_ButtonOf.calls (k : Nat) (a0 : Int) (a1 : Bool) (a2 : Bool) (a3 : Bool) (a4 : Bool) (r : Int) (w : World) (h : impl_ButtonOf.f k a0 a1 a2 a3 a4 = some r) :
    Calls Tryd.prog 13 #[.int .u8 a0, .bool a1, .bool a2, .bool a3, .bool a4] w fun e w' => e = .returned (.int .u8 r) ∧ Drawn0 w w' := by
  have H : ((xansi_EncodeMouseButton.f k a0 a1 a2 a3 a4).bind fun t175 => (some t175)) = some r := h
  clear h
  replace H := Option.bind_eq_some_iff.mp H
  obtain ⟨t175, A60, H⟩ := H
  replace H : (some t175) = some r := H
  have A6 := Aside0.mk A60
  clear A60
  obtain rfl := Option.some.inj H
  go_enter Tryd.func13, Tryd.ntmps13
  go_wp2_with (first | ((with_reducible refine gate_callee (f := 27) rfl ?_); refine goesL_ (some 16) rfl rfl Tryd.func27 (by kernel_rfl) rfl #[.int .u8 a0, .bool a1, .bool a2, .bool a3, .bool a4] rfl (by (try simp only [List.map_toArray, List.map_cons, List.map_nil]); first | done | rfl | (simp only [List.length_drop, List.length_take]; rfl) | (simp [Act.eval, *]; done) | (simp [Act.eval, *]; unfold wrap64; omega)) ?_; (with_reducible refine (xansi_EncodeMouseButton.calls k a0 a1 a2 a3 a4 t175 _ A6.out).mono ?_); rintro e w' ⟨rfl, ⟨nd, rfl⟩⟩; refine ⟨_, rfl, ?_⟩))
  go_ret
  exact ⟨by first | rfl | (simp; done) | (simp [*]; done), by repeat (first | exact Drawn0.refl _ | apply Drawn0.step)⟩

end Go.Proofs.YtohblegfpghejaaDoor.PB
