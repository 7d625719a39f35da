-- Written by wip/pp.py, a program of this session, out of the translation. Not trusted: Lean checks it.
import Derived.Test.YtplmmblofhhikaaDoorPVx0
import Derived.Test.YtplmmblofhhikaaDoorPVx4
namespace Go.Proofs.YtplmmblofhhikaaDoor.PV
open Go.RowKit Go.Proofs.YtplmmblofhhikaaDoor.Or Go.Proofs.YtplmmblofhhikaaDoorW.PrintWords Go.Proofs.YtplmmblofhhikaaDoorW.PrintLast Go.Proofs.YtplmmblofhhikaaDoorW.PrintMore
attribute [local go_sem] max2_int min2_int max_two min_two max_three min_three max_four min_four   -- for this text's walks alone
attribute [local go_sem] Go.Proofs.YtplmmblofhhikaaDoor.Ext.wrap64_mod256 Go.Proofs.YtplmmblofhhikaaDoor.Ext.wrap64_mod32 Go.Proofs.YtplmmblofhhikaaDoor.Ext.i64_mod256 Go.Proofs.YtplmmblofhhikaaDoor.Ext.i64_mod32 Go.Proofs.YtplmmblofhhikaaDoor.Ext.i64_u8 Go.Proofs.YtplmmblofhhikaaDoor.Ext.w64_u8 Go.Proofs.YtplmmblofhhikaaDoor.Ext.i64_u32 Go.Proofs.YtplmmblofhhikaaDoor.Ext.w64_u32 
set_option linter.unusedVariables false
set_option linter.unusedSimpArgs false

/-! ### xansi_CursorPositionReport: function 80 -/
def xansi_CursorPositionReport.j0 : Nat → Int → Int → Option (ByteArray)
  | 0, _, _ => none
  | k + 1, x0, x1 => if x1 < 1 then ((strconv_Itoa.f x0).bind fun t149 => (if 2 + t149.size ≤ 9223372036854775807 then (if 2 + t149.size + 1 ≤ 9223372036854775807 then ((strconv_Itoa.f 1).bind fun t150 => (if 2 + t149.size + 1 + t150.size ≤ 9223372036854775807 then (if 2 + t149.size + 1 + t150.size + 1 ≤ 9223372036854775807 then (some (((((⟨#[27, 91]⟩ : ByteArray) ++ t149) ++ (⟨#[59]⟩ : ByteArray)) ++ t150) ++ (⟨#[82]⟩ : ByteArray))) else (none)) else (none))) else (none)) else (none))) else ((strconv_Itoa.f x0).bind fun t151 => (if 2 + t151.size ≤ 9223372036854775807 then (if 2 + t151.size + 1 ≤ 9223372036854775807 then ((strconv_Itoa.f x1).bind fun t152 => (if 2 + t151.size + 1 + t152.size ≤ 9223372036854775807 then (if 2 + t151.size + 1 + t152.size + 1 ≤ 9223372036854775807 then (some (((((⟨#[27, 91]⟩ : ByteArray) ++ t151) ++ (⟨#[59]⟩ : ByteArray)) ++ t152) ++ (⟨#[82]⟩ : ByteArray))) else (none)) else (none))) else (none)) else (none)))
def xansi_CursorPositionReport.f (k : Nat) (a0 : Int) (a1 : Int) : Option (ByteArray) := if a0 < 1 then (xansi_CursorPositionReport.j0 k 1 a1) else (xansi_CursorPositionReport.j0 k a0 a1)
theorem xansi_CursorPositionReport.mono_l : ∀ k, (∀ y0 y1, LeO (xansi_CursorPositionReport.j0 k y0 y1) (xansi_CursorPositionReport.j0 (k + 1) y0 y1))
  | 0 => fun _ _ r h => by simp [xansi_CursorPositionReport.j0] at h
  | k + 1 => by
    have ih0 := xansi_CursorPositionReport.mono_l k
    · intro y0 y1
      unfold xansi_CursorPositionReport.j0
      repeat' first
      | (with_reducible exact ih0 _ _)
      | (with_reducible exact LeO.refl _)
      | (with_reducible exact LeO.none _)
      | (with_reducible refine LeO.ite ?_ ?_)
      | (with_reducible refine LeO.bind ?_ (fun _ => ?_))
      | exact ih0 _ _
      | exact LeO.none _
      | refine LeO.ite ?_ ?_
      | refine LeO.bind ?_ (fun _ => ?_)
theorem xansi_CursorPositionReport.mono : ∀ a0 a1 k, LeO (xansi_CursorPositionReport.f k a0 a1) (xansi_CursorPositionReport.f (k + 1) a0 a1) := by
  intro a0 a1 k
  have ih0 := xansi_CursorPositionReport.mono_l k
  unfold xansi_CursorPositionReport.f
  repeat' first
      | (with_reducible exact ih0 _ _)
      | (with_reducible exact LeO.refl _)
      | (with_reducible exact LeO.none _)
      | (with_reducible refine LeO.ite ?_ ?_)
      | (with_reducible refine LeO.bind ?_ (fun _ => ?_))
      | exact ih0 _ _
      | exact LeO.none _
      | refine LeO.ite ?_ ?_
      | refine LeO.bind ?_ (fun _ => ?_)
set_option maxHeartbeats 8000000 in
set_option maxRecDepth 100000 in
theorem xansi_CursorPositionReport.calls (k : Nat) (a0 : Int) (a1 : Int) (r : ByteArray) (w : World) (hLD : Laid w) (h : xansi_CursorPositionReport.f k a0 a1 = some r) :
    Calls Tryd.prog 80 #[.int .i64 a0, .int .i64 a1] w fun e w' => e = .returned (.string r) ∧ Below w.heap.size w w' := by
  have HLD := Aside0.mk hLD
  clear hLD
  have HB := Aside0.mk (Below.refl w.heap.size w)
  have H : (if a0 < 1 then (xansi_CursorPositionReport.j0 k 1 a1) else (xansi_CursorPositionReport.j0 k a0 a1)) = some r := h
  clear h
  have HC3 := Aside0.mk H
  clear H
  go_enter Tryd.func80, Tryd.ntmps80
  go_upto_if 6 with (fail)
  go_cut [0] (fun v0 wc => ∃ (kq : Nat) (x0_2 : Int), v0 = .int .i64 x0_2 ∧ Aside0 (xansi_CursorPositionReport.j0 kq x0_2 a1 = some r) ∧ Aside0 (kq ≤ k) ∧ Aside0 (Below w.heap.size w wc))
  case first =>
    have H := HC3.out
    clear HC3
    by_cases c4 : a0 < 1
    · rw [if_pos c4] at H
      have c4b0 : decide (a0 < 1) = true := decide_eq_true c4
      clear c4
      (first | rw [c4b0] | (simp only [i64_w, i32_w]; rw [c4b0]) | skip)
      have H' := Aside0.mk H
      clear H
      go_wp2
      go_meet
      case rel => exact ⟨_, (1), (by first | rfl | (simp; done) | (simp [*]; done)), H', ⟨by first | omega | exact Nat.le_refl _⟩, ⟨by repeat (first | (with_reducible first | exact HB.out | apply below_alloc | apply Go.Proofs.YtplmmblofhhikaaDoor.Ext.below_bytes | apply pw_below_drewN | apply below_drew1) | exact HB.out)⟩⟩
    · rw [if_neg c4] at H
      have c4b0 : decide (a0 < 1) = false := decide_eq_false c4
      clear c4
      (first | rw [c4b0] | (simp only [i64_w, i32_w]; rw [c4b0]) | skip)
      have H' := Aside0.mk H
      clear H
      go_wp2
      go_meet
      case rel => exact ⟨_, (a0), (by first | rfl | (simp; done) | (simp [*]; done)), H', ⟨by first | omega | exact Nat.le_refl _⟩, ⟨by repeat (first | (with_reducible first | exact HB.out | apply below_alloc | apply Go.Proofs.YtplmmblofhhikaaDoor.Ext.below_bytes | apply pw_below_drewN | apply below_drew1) | exact HB.out)⟩⟩
  case rest =>
    clear HC3
    try clear p2
    try clear c4
    try clear c4b0
    obtain ⟨kq, x0_2, rfl, HA, HJ2, HB⟩ := hcut
    cases kq with
    | zero => exact absurd HA.out (by simp [xansi_CursorPositionReport.j0])
    | succ kj2 =>
      have H := HA.out
      clear HA
      simp only [xansi_CursorPositionReport.j0] at H
      by_cases c5 : a1 < 1
      · rw [if_pos c5] at H
        have c5b0 : decide (a1 < 1) = true := decide_eq_true c5
        clear c5
        replace H := Option.bind_eq_some_iff.mp H
        obtain ⟨t149, A60, H⟩ := H
        replace H : (if 2 + t149.size ≤ 9223372036854775807 then (if 2 + t149.size + 1 ≤ 9223372036854775807 then ((strconv_Itoa.f 1).bind fun t150 => (if 2 + t149.size + 1 + t150.size ≤ 9223372036854775807 then (if 2 + t149.size + 1 + t150.size + 1 ≤ 9223372036854775807 then (some (((((⟨#[27, 91]⟩ : ByteArray) ++ t149) ++ (⟨#[59]⟩ : ByteArray)) ++ t150) ++ (⟨#[82]⟩ : ByteArray))) else (none)) else (none))) else (none)) else (none)) = some r := H
        have A6 := Aside0.mk A60
        clear A60
        by_cases c7 : 2 + t149.size ≤ 9223372036854775807
        · rw [if_pos c7] at H
          have c7b0 := eq_true c7
          have c7b1 : decide (2 + t149.size ≤ 9223372036854775807) = true := decide_eq_true c7
          try have c7b2 : (9223372036854775807 < 2 + t149.size) = False := eq_false (Nat.not_lt.2 c7)
          by_cases c8 : 2 + t149.size + 1 ≤ 9223372036854775807
          · rw [if_pos c8] at H
            have c8b0 := eq_true c8
            have c8b1 : decide (2 + t149.size + 1 ≤ 9223372036854775807) = true := decide_eq_true c8
            try have c8b2 : (9223372036854775807 < 2 + t149.size + 1) = False := eq_false (Nat.not_lt.2 c8)
            replace H := Option.bind_eq_some_iff.mp H
            obtain ⟨t150, A90, H⟩ := H
            replace H : (if 2 + t149.size + 1 + t150.size ≤ 9223372036854775807 then (if 2 + t149.size + 1 + t150.size + 1 ≤ 9223372036854775807 then (some (((((⟨#[27, 91]⟩ : ByteArray) ++ t149) ++ (⟨#[59]⟩ : ByteArray)) ++ t150) ++ (⟨#[82]⟩ : ByteArray))) else (none)) else (none)) = some r := H
            have A9 := Aside0.mk A90
            clear A90
            by_cases c10 : 2 + t149.size + 1 + t150.size ≤ 9223372036854775807
            · rw [if_pos c10] at H
              have c10b0 := eq_true c10
              have c10b1 : decide (2 + t149.size + 1 + t150.size ≤ 9223372036854775807) = true := decide_eq_true c10
              try have c10b2 : (9223372036854775807 < 2 + t149.size + 1 + t150.size) = False := eq_false (Nat.not_lt.2 c10)
              by_cases c11 : 2 + t149.size + 1 + t150.size + 1 ≤ 9223372036854775807
              · rw [if_pos c11] at H
                have c11b0 := eq_true c11
                have c11b1 : decide (2 + t149.size + 1 + t150.size + 1 ≤ 9223372036854775807) = true := decide_eq_true c11
                try have c11b2 : (9223372036854775807 < 2 + t149.size + 1 + t150.size + 1) = False := eq_false (Nat.not_lt.2 c11)
                obtain rfl := Option.some.inj H
                go_wp2_with (first | ((with_reducible refine gate_callee (f := 109) rfl ?_); refine goesL_ (some 10) rfl rfl Tryd.func109 (by kernel_rfl) rfl #[.int .i64 x0_2] rfl (by (try simp only [List.map_toArray, List.map_cons, List.map_nil]); first | done | rfl | (simp only [List.length_drop, List.length_take]; rfl) | (simp [Act.eval, *]; done) | (simp [Act.eval, *]; unfold wrap64; omega)) ?_; (with_reducible refine (strconv_Itoa.calls x0_2 t149 _ ?side1 A6.out).mono ?_); (case side1 => exact HLD.out.below (by repeat (first | (with_reducible first | exact HB.out | apply below_alloc | apply Go.Proofs.YtplmmblofhhikaaDoor.Ext.below_bytes | apply pw_below_drewN | apply below_drew1) | exact HB.out))); rintro e w12 ⟨rfl, hb⟩; refine ⟨_, rfl, ?_⟩; have n0_ := Aside0.mk (below_step (by repeat (first | (with_reducible first | exact HB.out | apply below_alloc | apply Go.Proofs.YtplmmblofhhikaaDoor.Ext.below_bytes | apply pw_below_drewN | apply below_drew1) | exact HB.out)) hb); clear HB; have HB := n0_; clear n0_; (try clear hb); (try clear hb2); (try clear hk); (try clear hi)) | ((with_reducible refine gate_callee (f := 109) rfl ?_); refine goesL_ (some 14) rfl rfl Tryd.func109 (by kernel_rfl) rfl #[.int .i64 1] rfl (by (try simp only [List.map_toArray, List.map_cons, List.map_nil]); first | done | rfl | (simp only [List.length_drop, List.length_take]; rfl) | (simp [Act.eval, *]; done) | (simp [Act.eval, *]; unfold wrap64; omega)) ?_; (with_reducible refine (strconv_Itoa.calls 1 t150 _ ?side1 A9.out).mono ?_); (case side1 => exact HLD.out.below (by repeat (first | (with_reducible first | exact HB.out | apply below_alloc | apply Go.Proofs.YtplmmblofhhikaaDoor.Ext.below_bytes | apply pw_below_drewN | apply below_drew1) | exact HB.out))); rintro e w13 ⟨rfl, hb⟩; refine ⟨_, rfl, ?_⟩; have n0_ := Aside0.mk (below_step (by repeat (first | (with_reducible first | exact HB.out | apply below_alloc | apply Go.Proofs.YtplmmblofhhikaaDoor.Ext.below_bytes | apply pw_below_drewN | apply below_drew1) | exact HB.out)) hb); clear HB; have HB := n0_; clear n0_; (try clear hb); (try clear hb2); (try clear hk); (try clear hi)))
                go_ret
                exact ⟨by first | rfl | (simp [errW_none, errW_some] <;> rfl) | (simp [*, errW_none, errW_some] <;> rfl), by repeat (first | (with_reducible first | exact HB.out | apply below_alloc | apply Go.Proofs.YtplmmblofhhikaaDoor.Ext.below_bytes | apply pw_below_drewN | apply below_drew1) | exact HB.out)⟩
              · rw [if_neg c11] at H
                exact absurd H (by simp)
            · rw [if_neg c10] at H
              exact absurd H (by simp)
          · rw [if_neg c8] at H
            exact absurd H (by simp)
        · rw [if_neg c7] at H
          exact absurd H (by simp)
      · rw [if_neg c5] at H
        have c5b0 : decide (a1 < 1) = false := decide_eq_false c5
        clear c5
        replace H := Option.bind_eq_some_iff.mp H
        obtain ⟨t151, A140, H⟩ := H
        replace H : (if 2 + t151.size ≤ 9223372036854775807 then (if 2 + t151.size + 1 ≤ 9223372036854775807 then ((strconv_Itoa.f a1).bind fun t152 => (if 2 + t151.size + 1 + t152.size ≤ 9223372036854775807 then (if 2 + t151.size + 1 + t152.size + 1 ≤ 9223372036854775807 then (some (((((⟨#[27, 91]⟩ : ByteArray) ++ t151) ++ (⟨#[59]⟩ : ByteArray)) ++ t152) ++ (⟨#[82]⟩ : ByteArray))) else (none)) else (none))) else (none)) else (none)) = some r := H
        have A14 := Aside0.mk A140
        clear A140
        by_cases c15 : 2 + t151.size ≤ 9223372036854775807
        · rw [if_pos c15] at H
          have c15b0 := eq_true c15
          have c15b1 : decide (2 + t151.size ≤ 9223372036854775807) = true := decide_eq_true c15
          try have c15b2 : (9223372036854775807 < 2 + t151.size) = False := eq_false (Nat.not_lt.2 c15)
          by_cases c16 : 2 + t151.size + 1 ≤ 9223372036854775807
          · rw [if_pos c16] at H
            have c16b0 := eq_true c16
            have c16b1 : decide (2 + t151.size + 1 ≤ 9223372036854775807) = true := decide_eq_true c16
            try have c16b2 : (9223372036854775807 < 2 + t151.size + 1) = False := eq_false (Nat.not_lt.2 c16)
            replace H := Option.bind_eq_some_iff.mp H
            obtain ⟨t152, A170, H⟩ := H
            replace H : (if 2 + t151.size + 1 + t152.size ≤ 9223372036854775807 then (if 2 + t151.size + 1 + t152.size + 1 ≤ 9223372036854775807 then (some (((((⟨#[27, 91]⟩ : ByteArray) ++ t151) ++ (⟨#[59]⟩ : ByteArray)) ++ t152) ++ (⟨#[82]⟩ : ByteArray))) else (none)) else (none)) = some r := H
            have A17 := Aside0.mk A170
            clear A170
            by_cases c18 : 2 + t151.size + 1 + t152.size ≤ 9223372036854775807
            · rw [if_pos c18] at H
              have c18b0 := eq_true c18
              have c18b1 : decide (2 + t151.size + 1 + t152.size ≤ 9223372036854775807) = true := decide_eq_true c18
              try have c18b2 : (9223372036854775807 < 2 + t151.size + 1 + t152.size) = False := eq_false (Nat.not_lt.2 c18)
              by_cases c19 : 2 + t151.size + 1 + t152.size + 1 ≤ 9223372036854775807
              · rw [if_pos c19] at H
                have c19b0 := eq_true c19
                have c19b1 : decide (2 + t151.size + 1 + t152.size + 1 ≤ 9223372036854775807) = true := decide_eq_true c19
                try have c19b2 : (9223372036854775807 < 2 + t151.size + 1 + t152.size + 1) = False := eq_false (Nat.not_lt.2 c19)
                obtain rfl := Option.some.inj H
                go_wp2_with (first | ((with_reducible refine gate_callee (f := 109) rfl ?_); refine goesL_ (some 10) rfl rfl Tryd.func109 (by kernel_rfl) rfl #[.int .i64 x0_2] rfl (by (try simp only [List.map_toArray, List.map_cons, List.map_nil]); first | done | rfl | (simp only [List.length_drop, List.length_take]; rfl) | (simp [Act.eval, *]; done) | (simp [Act.eval, *]; unfold wrap64; omega)) ?_; (with_reducible refine (strconv_Itoa.calls x0_2 t151 _ ?side1 A14.out).mono ?_); (case side1 => exact HLD.out.below (by repeat (first | (with_reducible first | exact HB.out | apply below_alloc | apply Go.Proofs.YtplmmblofhhikaaDoor.Ext.below_bytes | apply pw_below_drewN | apply below_drew1) | exact HB.out))); rintro e w20 ⟨rfl, hb⟩; refine ⟨_, rfl, ?_⟩; have n0_ := Aside0.mk (below_step (by repeat (first | (with_reducible first | exact HB.out | apply below_alloc | apply Go.Proofs.YtplmmblofhhikaaDoor.Ext.below_bytes | apply pw_below_drewN | apply below_drew1) | exact HB.out)) hb); clear HB; have HB := n0_; clear n0_; (try clear hb); (try clear hb2); (try clear hk); (try clear hi)) | ((with_reducible refine gate_callee (f := 109) rfl ?_); refine goesL_ (some 14) rfl rfl Tryd.func109 (by kernel_rfl) rfl #[.int .i64 a1] rfl (by (try simp only [List.map_toArray, List.map_cons, List.map_nil]); first | done | rfl | (simp only [List.length_drop, List.length_take]; rfl) | (simp [Act.eval, *]; done) | (simp [Act.eval, *]; unfold wrap64; omega)) ?_; (with_reducible refine (strconv_Itoa.calls a1 t152 _ ?side1 A17.out).mono ?_); (case side1 => exact HLD.out.below (by repeat (first | (with_reducible first | exact HB.out | apply below_alloc | apply Go.Proofs.YtplmmblofhhikaaDoor.Ext.below_bytes | apply pw_below_drewN | apply below_drew1) | exact HB.out))); rintro e w21 ⟨rfl, hb⟩; refine ⟨_, rfl, ?_⟩; have n0_ := Aside0.mk (below_step (by repeat (first | (with_reducible first | exact HB.out | apply below_alloc | apply Go.Proofs.YtplmmblofhhikaaDoor.Ext.below_bytes | apply pw_below_drewN | apply below_drew1) | exact HB.out)) hb); clear HB; have HB := n0_; clear n0_; (try clear hb); (try clear hb2); (try clear hk); (try clear hi)))
                go_ret
                exact ⟨by first | rfl | (simp [errW_none, errW_some] <;> rfl) | (simp [*, errW_none, errW_some] <;> rfl), by repeat (first | (with_reducible first | exact HB.out | apply below_alloc | apply Go.Proofs.YtplmmblofhhikaaDoor.Ext.below_bytes | apply pw_below_drewN | apply below_drew1) | exact HB.out)⟩
              · rw [if_neg c19] at H
                exact absurd H (by simp)
            · rw [if_neg c18] at H
              exact absurd H (by simp)
          · rw [if_neg c16] at H
            exact absurd H (by simp)
        · rw [if_neg c15] at H
          exact absurd H (by simp)

/-! ### xansi_KittyKeyboard: function 81 -/
def xansi_KittyKeyboard.f (a0 : Int) (a1 : Int) : Option (ByteArray) := (strconv_Itoa.f a0).bind fun t153 => (if 3 + t153.size ≤ 9223372036854775807 then (if 3 + t153.size + 1 ≤ 9223372036854775807 then ((strconv_Itoa.f a1).bind fun t154 => (if 3 + t153.size + 1 + t154.size ≤ 9223372036854775807 then (if 3 + t153.size + 1 + t154.size + 1 ≤ 9223372036854775807 then (some (((((⟨#[27, 91, 61]⟩ : ByteArray) ++ t153) ++ (⟨#[59]⟩ : ByteArray)) ++ t154) ++ (⟨#[117]⟩ : ByteArray))) else (none)) else (none))) else (none)) else (none))
set_option maxHeartbeats 8000000 in
set_option maxRecDepth 100000 in
theorem xansi_KittyKeyboard.calls (a0 : Int) (a1 : Int) (r : ByteArray) (w : World) (hLD : Laid w) (h : xansi_KittyKeyboard.f a0 a1 = some r) :
    Calls Tryd.prog 81 #[.int .i64 a0, .int .i64 a1] w fun e w' => e = .returned (.string r) ∧ Below w.heap.size w w' := by
  have HLD := Aside0.mk hLD
  clear hLD
  have HB := Aside0.mk (Below.refl w.heap.size w)
  have H : ((strconv_Itoa.f a0).bind fun t153 => (if 3 + t153.size ≤ 9223372036854775807 then (if 3 + t153.size + 1 ≤ 9223372036854775807 then ((strconv_Itoa.f a1).bind fun t154 => (if 3 + t153.size + 1 + t154.size ≤ 9223372036854775807 then (if 3 + t153.size + 1 + t154.size + 1 ≤ 9223372036854775807 then (some (((((⟨#[27, 91, 61]⟩ : ByteArray) ++ t153) ++ (⟨#[59]⟩ : ByteArray)) ++ t154) ++ (⟨#[117]⟩ : ByteArray))) else (none)) else (none))) else (none)) else (none))) = some r := h
  clear h
  replace H := Option.bind_eq_some_iff.mp H
  obtain ⟨t153, A30, H⟩ := H
  replace H : (if 3 + t153.size ≤ 9223372036854775807 then (if 3 + t153.size + 1 ≤ 9223372036854775807 then ((strconv_Itoa.f a1).bind fun t154 => (if 3 + t153.size + 1 + t154.size ≤ 9223372036854775807 then (if 3 + t153.size + 1 + t154.size + 1 ≤ 9223372036854775807 then (some (((((⟨#[27, 91, 61]⟩ : ByteArray) ++ t153) ++ (⟨#[59]⟩ : ByteArray)) ++ t154) ++ (⟨#[117]⟩ : ByteArray))) else (none)) else (none))) else (none)) else (none)) = some r := H
  have A3 := Aside0.mk A30
  clear A30
  by_cases c4 : 3 + t153.size ≤ 9223372036854775807
  · rw [if_pos c4] at H
    have c4b0 := eq_true c4
    have c4b1 : decide (3 + t153.size ≤ 9223372036854775807) = true := decide_eq_true c4
    try have c4b2 : (9223372036854775807 < 3 + t153.size) = False := eq_false (Nat.not_lt.2 c4)
    by_cases c5 : 3 + t153.size + 1 ≤ 9223372036854775807
    · rw [if_pos c5] at H
      have c5b0 := eq_true c5
      have c5b1 : decide (3 + t153.size + 1 ≤ 9223372036854775807) = true := decide_eq_true c5
      try have c5b2 : (9223372036854775807 < 3 + t153.size + 1) = False := eq_false (Nat.not_lt.2 c5)
      replace H := Option.bind_eq_some_iff.mp H
      obtain ⟨t154, A60, H⟩ := H
      replace H : (if 3 + t153.size + 1 + t154.size ≤ 9223372036854775807 then (if 3 + t153.size + 1 + t154.size + 1 ≤ 9223372036854775807 then (some (((((⟨#[27, 91, 61]⟩ : ByteArray) ++ t153) ++ (⟨#[59]⟩ : ByteArray)) ++ t154) ++ (⟨#[117]⟩ : ByteArray))) else (none)) else (none)) = some r := H
      have A6 := Aside0.mk A60
      clear A60
      by_cases c7 : 3 + t153.size + 1 + t154.size ≤ 9223372036854775807
      · rw [if_pos c7] at H
        have c7b0 := eq_true c7
        have c7b1 : decide (3 + t153.size + 1 + t154.size ≤ 9223372036854775807) = true := decide_eq_true c7
        try have c7b2 : (9223372036854775807 < 3 + t153.size + 1 + t154.size) = False := eq_false (Nat.not_lt.2 c7)
        by_cases c8 : 3 + t153.size + 1 + t154.size + 1 ≤ 9223372036854775807
        · rw [if_pos c8] at H
          have c8b0 := eq_true c8
          have c8b1 : decide (3 + t153.size + 1 + t154.size + 1 ≤ 9223372036854775807) = true := decide_eq_true c8
          try have c8b2 : (9223372036854775807 < 3 + t153.size + 1 + t154.size + 1) = False := eq_false (Nat.not_lt.2 c8)
          obtain rfl := Option.some.inj H
          go_enter Tryd.func81, Tryd.ntmps81
          go_wp2_with (first | ((with_reducible refine gate_callee (f := 109) rfl ?_); refine goesL_ (some 6) rfl rfl Tryd.func109 (by kernel_rfl) rfl #[.int .i64 a0] rfl (by (try simp only [List.map_toArray, List.map_cons, List.map_nil]); first | done | rfl | (simp only [List.length_drop, List.length_take]; rfl) | (simp [Act.eval, *]; done) | (simp [Act.eval, *]; unfold wrap64; omega)) ?_; (with_reducible refine (strconv_Itoa.calls a0 t153 _ ?side1 A3.out).mono ?_); (case side1 => exact HLD.out.below (by repeat (first | (with_reducible first | exact HB.out | apply below_alloc | apply Go.Proofs.YtplmmblofhhikaaDoor.Ext.below_bytes | apply pw_below_drewN | apply below_drew1) | exact HB.out))); rintro e w9 ⟨rfl, hb⟩; refine ⟨_, rfl, ?_⟩; have n0_ := Aside0.mk (below_step (by repeat (first | (with_reducible first | exact HB.out | apply below_alloc | apply Go.Proofs.YtplmmblofhhikaaDoor.Ext.below_bytes | apply pw_below_drewN | apply below_drew1) | exact HB.out)) hb); clear HB; have HB := n0_; clear n0_; (try clear hb); (try clear hb2); (try clear hk); (try clear hi)) | ((with_reducible refine gate_callee (f := 109) rfl ?_); refine goesL_ (some 10) rfl rfl Tryd.func109 (by kernel_rfl) rfl #[.int .i64 a1] rfl (by (try simp only [List.map_toArray, List.map_cons, List.map_nil]); first | done | rfl | (simp only [List.length_drop, List.length_take]; rfl) | (simp [Act.eval, *]; done) | (simp [Act.eval, *]; unfold wrap64; omega)) ?_; (with_reducible refine (strconv_Itoa.calls a1 t154 _ ?side1 A6.out).mono ?_); (case side1 => exact HLD.out.below (by repeat (first | (with_reducible first | exact HB.out | apply below_alloc | apply Go.Proofs.YtplmmblofhhikaaDoor.Ext.below_bytes | apply pw_below_drewN | apply below_drew1) | exact HB.out))); rintro e w10 ⟨rfl, hb⟩; refine ⟨_, rfl, ?_⟩; have n0_ := Aside0.mk (below_step (by repeat (first | (with_reducible first | exact HB.out | apply below_alloc | apply Go.Proofs.YtplmmblofhhikaaDoor.Ext.below_bytes | apply pw_below_drewN | apply below_drew1) | exact HB.out)) hb); clear HB; have HB := n0_; clear n0_; (try clear hb); (try clear hb2); (try clear hk); (try clear hi)))
          go_ret
          exact ⟨by first | rfl | (simp [errW_none, errW_some] <;> rfl) | (simp [*, errW_none, errW_some] <;> rfl), by repeat (first | (with_reducible first | exact HB.out | apply below_alloc | apply Go.Proofs.YtplmmblofhhikaaDoor.Ext.below_bytes | apply pw_below_drewN | apply below_drew1) | exact HB.out)⟩
        · rw [if_neg c8] at H
          exact absurd H (by simp)
      · rw [if_neg c7] at H
        exact absurd H (by simp)
    · rw [if_neg c5] at H
      exact absurd H (by simp)
  · rw [if_neg c4] at H
    exact absurd H (by simp)

/-! ### xansi_KeyModifierOptions: function 90 -/
def xansi_KeyModifierOptions.j0 : Nat → Int → List Int → ByteArray → Option (ByteArray)
  | 0, _, _, _ => none
  | k + 1, x0, x1, x5 => if (x1.length : Int) = 0 then ((strconv_Itoa.f x0).bind fun t156 => (if 3 + t156.size ≤ 9223372036854775807 then (if 3 + t156.size + 1 ≤ 9223372036854775807 then (some (((⟨#[27, 91, 62]⟩ : ByteArray) ++ t156) ++ (⟨#[109]⟩ : ByteArray))) else (none)) else (none))) else (if 0 < (x1.length : Int) then (if (rd x1 0) > 0 then ((strconv_Itoa.f (rd x1 0)).bind fun t158 => (if 3 + x5.size ≤ 9223372036854775807 then (if 3 + x5.size + 1 ≤ 9223372036854775807 then (if 3 + x5.size + 1 + t158.size ≤ 9223372036854775807 then (if 3 + x5.size + 1 + t158.size + 1 ≤ 9223372036854775807 then (some (((((⟨#[27, 91, 62]⟩ : ByteArray) ++ x5) ++ (⟨#[59]⟩ : ByteArray)) ++ t158) ++ (⟨#[109]⟩ : ByteArray))) else (none)) else (none)) else (none)) else (none))) else (if 3 + x5.size ≤ 9223372036854775807 then (if 3 + x5.size + 1 ≤ 9223372036854775807 then (some (((⟨#[27, 91, 62]⟩ : ByteArray) ++ x5) ++ (⟨#[109]⟩ : ByteArray))) else (none)) else (none))) else (none))
def xansi_KeyModifierOptions.f (k : Nat) (a0 : Int) (l1 : List Int) : Option (ByteArray) := if a0 > 0 then ((strconv_Itoa.f a0).bind fun t155 => (xansi_KeyModifierOptions.j0 k a0 l1 t155)) else (xansi_KeyModifierOptions.j0 k a0 l1 (⟨#[]⟩ : ByteArray))
theorem xansi_KeyModifierOptions.mono_l : ∀ k, (∀ y0 y1 y2, LeO (xansi_KeyModifierOptions.j0 k y0 y1 y2) (xansi_KeyModifierOptions.j0 (k + 1) y0 y1 y2))
  | 0 => fun _ _ _ r h => by simp [xansi_KeyModifierOptions.j0] at h
  | k + 1 => by
    have ih0 := xansi_KeyModifierOptions.mono_l k
    · intro y0 y1 y2
      unfold xansi_KeyModifierOptions.j0
      repeat' first
      | (with_reducible exact ih0 _ _ _)
      | (with_reducible exact LeO.refl _)
      | (with_reducible exact LeO.none _)
      | (with_reducible refine LeO.ite ?_ ?_)
      | (with_reducible refine LeO.bind ?_ (fun _ => ?_))
      | exact ih0 _ _ _
      | exact LeO.none _
      | refine LeO.ite ?_ ?_
      | refine LeO.bind ?_ (fun _ => ?_)
theorem xansi_KeyModifierOptions.mono : ∀ a0 a1 k, LeO (xansi_KeyModifierOptions.f k a0 a1) (xansi_KeyModifierOptions.f (k + 1) a0 a1) := by
  intro a0 a1 k
  have ih0 := xansi_KeyModifierOptions.mono_l k
  unfold xansi_KeyModifierOptions.f
  repeat' first
      | (with_reducible exact ih0 _ _ _)
      | (with_reducible exact LeO.refl _)
      | (with_reducible exact LeO.none _)
      | (with_reducible refine LeO.ite ?_ ?_)
      | (with_reducible refine LeO.bind ?_ (fun _ => ?_))
      | exact ih0 _ _ _
      | exact LeO.none _
      | refine LeO.ite ?_ ?_
      | refine LeO.bind ?_ (fun _ => ?_)
set_option maxHeartbeats 8000000 in
set_option maxRecDepth 100000 in
theorem xansi_KeyModifierOptions.calls (k : Nat) (a0 : Int) (A1 : Option Addr) (c1 : Nat) (l1 : List Int) (r : ByteArray) (w : World) (hr1 : Kd.C (Kd.int .i64) w A1 l1.length l1) (hc1 : l1.length ≤ c1) (hLD : Laid w) (h : xansi_KeyModifierOptions.f k a0 l1 = some r) :
    Calls Tryd.prog 90 #[.int .i64 a0, .slice A1 l1.length c1] w fun e w' => e = .returned (.string r) ∧ Below w.heap.size w w' := by
  have HLD := Aside0.mk hLD
  clear hLD
  have HR1 := Aside0.mk hr1
  have HC1 := Aside0.mk hc1
  clear hr1 hc1
  have HB := Aside0.mk (Below.refl w.heap.size w)
  have H : (if a0 > 0 then ((strconv_Itoa.f a0).bind fun t155 => (xansi_KeyModifierOptions.j0 k a0 l1 t155)) else (xansi_KeyModifierOptions.j0 k a0 l1 (⟨#[]⟩ : ByteArray))) = some r := h
  clear h
  have HC3 := Aside0.mk H
  clear H
  go_enter Tryd.func90, Tryd.ntmps90
  go_upto_if 9 with (fail)
  go_cut [5] (fun v5 wc => ∃ (kq : Nat) (x5_2 : ByteArray), v5 = .string x5_2 ∧ Aside0 (xansi_KeyModifierOptions.j0 kq a0 l1 x5_2 = some r) ∧ Aside0 (kq ≤ k) ∧ Aside0 (Below w.heap.size w wc))
  case first =>
    have H := HC3.out
    clear HC3
    by_cases c4 : a0 > 0
    · rw [if_pos c4] at H
      have c4b0 : decide (0 < a0) = true := decide_eq_true c4
      clear c4
      (first | rw [c4b0] | (simp only [i64_w, i32_w]; rw [c4b0]) | skip)
      replace H := Option.bind_eq_some_iff.mp H
      obtain ⟨t155, A50, H⟩ := H
      replace H : (xansi_KeyModifierOptions.j0 k a0 l1 t155) = some r := H
      have A5 := Aside0.mk A50
      clear A50
      have H' := Aside0.mk H
      clear H
      go_wp2_with (first | ((with_reducible refine gate_callee (f := 109) rfl ?_); refine goesL_ (some 11) rfl rfl Tryd.func109 (by kernel_rfl) rfl #[.int .i64 a0] rfl (by (try simp only [List.map_toArray, List.map_cons, List.map_nil]); first | done | rfl | (simp only [List.length_drop, List.length_take]; rfl) | (simp [Act.eval, *]; done) | (simp [Act.eval, *]; unfold wrap64; omega)) ?_; (with_reducible refine (strconv_Itoa.calls a0 t155 _ ?side1 A5.out).mono ?_); (case side1 => exact HLD.out.below (by repeat (first | (with_reducible first | exact HB.out | apply below_alloc | apply Go.Proofs.YtplmmblofhhikaaDoor.Ext.below_bytes | apply pw_below_drewN | apply below_drew1) | exact HB.out))); rintro e w6 ⟨rfl, hb⟩; refine ⟨_, rfl, ?_⟩; have n0_ := Aside0.mk (below_step (by repeat (first | (with_reducible first | exact HB.out | apply below_alloc | apply Go.Proofs.YtplmmblofhhikaaDoor.Ext.below_bytes | apply pw_below_drewN | apply below_drew1) | exact HB.out)) hb); clear HB; have HB := n0_; clear n0_; (try clear hb); (try clear hb2); (try clear hk); (try clear hi)))
      go_meet
      case rel => exact ⟨_, (t155), (by first | rfl | (simp; done) | (simp [*]; done)), H', ⟨by first | omega | exact Nat.le_refl _⟩, ⟨by repeat (first | (with_reducible first | exact HB.out | apply below_alloc | apply Go.Proofs.YtplmmblofhhikaaDoor.Ext.below_bytes | apply pw_below_drewN | apply below_drew1) | exact HB.out)⟩⟩
    · rw [if_neg c4] at H
      have c4b0 : decide (0 < a0) = false := decide_eq_false c4
      clear c4
      (first | rw [c4b0] | (simp only [i64_w, i32_w]; rw [c4b0]) | skip)
      have H' := Aside0.mk H
      clear H
      go_wp2
      go_meet
      case rel => exact ⟨_, ((⟨#[]⟩ : ByteArray)), (by first | rfl | (simp; done) | (simp [*]; done)), H', ⟨by first | omega | exact Nat.le_refl _⟩, ⟨by repeat (first | (with_reducible first | exact HB.out | apply below_alloc | apply Go.Proofs.YtplmmblofhhikaaDoor.Ext.below_bytes | apply pw_below_drewN | apply below_drew1) | exact HB.out)⟩⟩
  case rest =>
    clear HC3
    try clear c1
    try clear p2
    try clear c4
    try clear c4b0
    try clear p6
    obtain ⟨kq, x5_2, rfl, HA, HJ2, HB⟩ := hcut
    cases kq with
    | zero => exact absurd HA.out (by simp [xansi_KeyModifierOptions.j0])
    | succ kj2 =>
      have H := HA.out
      clear HA
      simp only [xansi_KeyModifierOptions.j0] at H
      by_cases c7 : (l1.length : Int) = 0
      · rw [if_pos c7] at H
        have c7b0 : ((l1.length : Int) == 0) = true := beq_iff_eq.mpr c7
        have c7b1 : ((l1.length : Int) != 0) = false := bne_eq_false_iff_eq.mpr c7
        clear c7
        replace H := Option.bind_eq_some_iff.mp H
        obtain ⟨t156, A80, H⟩ := H
        replace H : (if 3 + t156.size ≤ 9223372036854775807 then (if 3 + t156.size + 1 ≤ 9223372036854775807 then (some (((⟨#[27, 91, 62]⟩ : ByteArray) ++ t156) ++ (⟨#[109]⟩ : ByteArray))) else (none)) else (none)) = some r := H
        have A8 := Aside0.mk A80
        clear A80
        by_cases c9 : 3 + t156.size ≤ 9223372036854775807
        · rw [if_pos c9] at H
          have c9b0 := eq_true c9
          have c9b1 : decide (3 + t156.size ≤ 9223372036854775807) = true := decide_eq_true c9
          try have c9b2 : (9223372036854775807 < 3 + t156.size) = False := eq_false (Nat.not_lt.2 c9)
          by_cases c10 : 3 + t156.size + 1 ≤ 9223372036854775807
          · rw [if_pos c10] at H
            have c10b0 := eq_true c10
            have c10b1 : decide (3 + t156.size + 1 ≤ 9223372036854775807) = true := decide_eq_true c10
            try have c10b2 : (9223372036854775807 < 3 + t156.size + 1) = False := eq_false (Nat.not_lt.2 c10)
            obtain rfl := Option.some.inj H
            go_wp2_with (first | ((with_reducible refine gate_callee (f := 109) rfl ?_); refine goesL_ (some 16) rfl rfl Tryd.func109 (by kernel_rfl) rfl #[.int .i64 a0] rfl (by (try simp only [List.map_toArray, List.map_cons, List.map_nil]); first | done | rfl | (simp only [List.length_drop, List.length_take]; rfl) | (simp [Act.eval, *]; done) | (simp [Act.eval, *]; unfold wrap64; omega)) ?_; (with_reducible refine (strconv_Itoa.calls a0 t156 _ ?side1 A8.out).mono ?_); (case side1 => exact HLD.out.below (by repeat (first | (with_reducible first | exact HB.out | apply below_alloc | apply Go.Proofs.YtplmmblofhhikaaDoor.Ext.below_bytes | apply pw_below_drewN | apply below_drew1) | exact HB.out))); rintro e w11 ⟨rfl, hb⟩; refine ⟨_, rfl, ?_⟩; have n0_ := Aside0.mk (below_step (by repeat (first | (with_reducible first | exact HB.out | apply below_alloc | apply Go.Proofs.YtplmmblofhhikaaDoor.Ext.below_bytes | apply pw_below_drewN | apply below_drew1) | exact HB.out)) hb); clear HB; have HB := n0_; clear n0_; (try clear hb); (try clear hb2); (try clear hk); (try clear hi)))
            go_ret
            exact ⟨by first | rfl | (simp [errW_none, errW_some] <;> rfl) | (simp [*, errW_none, errW_some] <;> rfl), by repeat (first | (with_reducible first | exact HB.out | apply below_alloc | apply Go.Proofs.YtplmmblofhhikaaDoor.Ext.below_bytes | apply pw_below_drewN | apply below_drew1) | exact HB.out)⟩
          · rw [if_neg c10] at H
            exact absurd H (by simp)
        · rw [if_neg c9] at H
          exact absurd H (by simp)
      · rw [if_neg c7] at H
        have c7b0 : ((l1.length : Int) == 0) = false := beq_eq_false_iff_ne.mpr c7
        have c7b1 : ((l1.length : Int) != 0) = true := bne_iff_ne.mpr c7
        have c7b2 : ¬ (l1 = []) := fun h_ => c7 (by rw [h_]; rfl)
        by_cases c12 : 0 < (l1.length : Int)
        · rw [if_pos c12] at H
          have c12b0 : decide (0 < (l1.length : Int)) = true := decide_eq_true c12
          have c12b1 : decide (0 < l1.length) = true := decide_eq_true (by omega)
          clear c12
          by_cases c13 : (rd l1 0) > 0
          · rw [if_pos c13] at H
            have c13b0 : decide (0 < (rd l1 0)) = true := decide_eq_true c13
            clear c13
            replace H := Option.bind_eq_some_iff.mp H
            obtain ⟨t158, A140, H⟩ := H
            replace H : (if 3 + x5_2.size ≤ 9223372036854775807 then (if 3 + x5_2.size + 1 ≤ 9223372036854775807 then (if 3 + x5_2.size + 1 + t158.size ≤ 9223372036854775807 then (if 3 + x5_2.size + 1 + t158.size + 1 ≤ 9223372036854775807 then (some (((((⟨#[27, 91, 62]⟩ : ByteArray) ++ x5_2) ++ (⟨#[59]⟩ : ByteArray)) ++ t158) ++ (⟨#[109]⟩ : ByteArray))) else (none)) else (none)) else (none)) else (none)) = some r := H
            have A14 := Aside0.mk A140
            clear A140
            by_cases c15 : 3 + x5_2.size ≤ 9223372036854775807
            · rw [if_pos c15] at H
              have c15b0 := eq_true c15
              have c15b1 : decide (3 + x5_2.size ≤ 9223372036854775807) = true := decide_eq_true c15
              try have c15b2 : (9223372036854775807 < 3 + x5_2.size) = False := eq_false (Nat.not_lt.2 c15)
              by_cases c16 : 3 + x5_2.size + 1 ≤ 9223372036854775807
              · rw [if_pos c16] at H
                have c16b0 := eq_true c16
                have c16b1 : decide (3 + x5_2.size + 1 ≤ 9223372036854775807) = true := decide_eq_true c16
                try have c16b2 : (9223372036854775807 < 3 + x5_2.size + 1) = False := eq_false (Nat.not_lt.2 c16)
                by_cases c17 : 3 + x5_2.size + 1 + t158.size ≤ 9223372036854775807
                · rw [if_pos c17] at H
                  have c17b0 := eq_true c17
                  have c17b1 : decide (3 + x5_2.size + 1 + t158.size ≤ 9223372036854775807) = true := decide_eq_true c17
                  try have c17b2 : (9223372036854775807 < 3 + x5_2.size + 1 + t158.size) = False := eq_false (Nat.not_lt.2 c17)
                  by_cases c18 : 3 + x5_2.size + 1 + t158.size + 1 ≤ 9223372036854775807
                  · rw [if_pos c18] at H
                    have c18b0 := eq_true c18
                    have c18b1 : decide (3 + x5_2.size + 1 + t158.size + 1 ≤ 9223372036854775807) = true := decide_eq_true c18
                    try have c18b2 : (9223372036854775807 < 3 + x5_2.size + 1 + t158.size + 1) = False := eq_false (Nat.not_lt.2 c18)
                    obtain rfl := Option.some.inj H
                    have p157 : 0 ≤ (0 : Int) := (by omega)
                    have q157 : 0 < (l1.length : Int) := of_decide_eq_true (by first | (with_reducible assumption) | assumption)
                    obtain ⟨ad157, e157, hx157_0⟩ := Kd.at_int HR1.out 0 p157 q157
                    cases e157
                    have qi157 : (0 < l1.length) = True := eq_true (by omega)
                    (try rw [show ((0 : Int)).toNat = 0 from rfl] at hx157_0)
                    (try rw [Addr.add_zero'] at hx157_0)
                    replace hx157_0 := (HB.out.cell (World.block_lt_of_cell? w _ hx157_0)).trans hx157_0
                    replace p157 := eq_true p157
                    replace q157 := eq_true q157
                    go_wp2_with (first | ((with_reducible refine gate_callee (f := 109) rfl ?_); refine goesL_ (some 25) rfl rfl Tryd.func109 (by kernel_rfl) rfl #[.int .i64 (rd l1 0)] rfl (by (try simp only [List.map_toArray, List.map_cons, List.map_nil]); first | done | rfl | (simp only [List.length_drop, List.length_take]; rfl) | (simp [Act.eval, *]; done) | (simp [Act.eval, *]; unfold wrap64; omega)) ?_; (with_reducible refine (strconv_Itoa.calls (rd l1 0) t158 _ ?side1 A14.out).mono ?_); (case side1 => exact HLD.out.below (by repeat (first | (with_reducible first | exact HB.out | apply below_alloc | apply Go.Proofs.YtplmmblofhhikaaDoor.Ext.below_bytes | apply pw_below_drewN | apply below_drew1) | exact HB.out))); rintro e w19 ⟨rfl, hb⟩; refine ⟨_, rfl, ?_⟩; have n0_ := Aside0.mk (below_step (by repeat (first | (with_reducible first | exact HB.out | apply below_alloc | apply Go.Proofs.YtplmmblofhhikaaDoor.Ext.below_bytes | apply pw_below_drewN | apply below_drew1) | exact HB.out)) hb); clear HB; have HB := n0_; clear n0_; (try clear hb); (try clear hb2); (try clear hk); (try clear hi)))
                    go_ret
                    exact ⟨by first | rfl | (simp [errW_none, errW_some] <;> rfl) | (simp [*, errW_none, errW_some] <;> rfl), by repeat (first | (with_reducible first | exact HB.out | apply below_alloc | apply Go.Proofs.YtplmmblofhhikaaDoor.Ext.below_bytes | apply pw_below_drewN | apply below_drew1) | exact HB.out)⟩
                  · rw [if_neg c18] at H
                    exact absurd H (by simp)
                · rw [if_neg c17] at H
                  exact absurd H (by simp)
              · rw [if_neg c16] at H
                exact absurd H (by simp)
            · rw [if_neg c15] at H
              exact absurd H (by simp)
          · rw [if_neg c13] at H
            have c13b0 : decide (0 < (rd l1 0)) = false := decide_eq_false c13
            clear c13
            by_cases c20 : 3 + x5_2.size ≤ 9223372036854775807
            · rw [if_pos c20] at H
              have c20b0 := eq_true c20
              have c20b1 : decide (3 + x5_2.size ≤ 9223372036854775807) = true := decide_eq_true c20
              try have c20b2 : (9223372036854775807 < 3 + x5_2.size) = False := eq_false (Nat.not_lt.2 c20)
              by_cases c21 : 3 + x5_2.size + 1 ≤ 9223372036854775807
              · rw [if_pos c21] at H
                have c21b0 := eq_true c21
                have c21b1 : decide (3 + x5_2.size + 1 ≤ 9223372036854775807) = true := decide_eq_true c21
                try have c21b2 : (9223372036854775807 < 3 + x5_2.size + 1) = False := eq_false (Nat.not_lt.2 c21)
                obtain rfl := Option.some.inj H
                have p157 : 0 ≤ (0 : Int) := (by omega)
                have q157 : 0 < (l1.length : Int) := of_decide_eq_true (by first | (with_reducible assumption) | assumption)
                obtain ⟨ad157, e157, hx157_0⟩ := Kd.at_int HR1.out 0 p157 q157
                cases e157
                have qi157 : (0 < l1.length) = True := eq_true (by omega)
                (try rw [show ((0 : Int)).toNat = 0 from rfl] at hx157_0)
                (try rw [Addr.add_zero'] at hx157_0)
                replace hx157_0 := (HB.out.cell (World.block_lt_of_cell? w _ hx157_0)).trans hx157_0
                replace p157 := eq_true p157
                replace q157 := eq_true q157
                go_wp2
                go_ret
                exact ⟨by first | rfl | (simp [errW_none, errW_some] <;> rfl) | (simp [*, errW_none, errW_some] <;> rfl), by repeat (first | (with_reducible first | exact HB.out | apply below_alloc | apply Go.Proofs.YtplmmblofhhikaaDoor.Ext.below_bytes | apply pw_below_drewN | apply below_drew1) | exact HB.out)⟩
              · rw [if_neg c21] at H
                exact absurd H (by simp)
            · rw [if_neg c20] at H
              exact absurd H (by simp)
        · rw [if_neg c12] at H
          exact absurd H (by simp)

/-! ### xansi_SetKeyModifierOptions: function 82 -/
def xansi_SetKeyModifierOptions.f (k : Nat) (a0 : Int) (a1 : Int) : Option (ByteArray) := (xansi_KeyModifierOptions.f k a0 (([a1] : List Int))).bind fun t162 => (some t162)
theorem xansi_SetKeyModifierOptions.mono : ∀ a0 a1 k, LeO (xansi_SetKeyModifierOptions.f k a0 a1) (xansi_SetKeyModifierOptions.f (k + 1) a0 a1) := by
  intro a0 a1 k
  unfold xansi_SetKeyModifierOptions.f
  repeat' first
      | (with_reducible exact xansi_KeyModifierOptions.mono _ _ _)
      | (with_reducible exact LeO.refl _)
      | (with_reducible exact LeO.none _)
      | (with_reducible refine LeO.ite ?_ ?_)
      | (with_reducible refine LeO.bind ?_ (fun _ => ?_))
      | exact xansi_KeyModifierOptions.mono _ _ _
      | exact LeO.none _
      | refine LeO.ite ?_ ?_
      | refine LeO.bind ?_ (fun _ => ?_)
set_option maxHeartbeats 8000000 in
set_option maxRecDepth 100000 in
theorem xansi_SetKeyModifierOptions.calls (k : Nat) (a0 : Int) (a1 : Int) (r : ByteArray) (w : World) (hLD : Laid w) (h : xansi_SetKeyModifierOptions.f k a0 a1 = some r) :
    Calls Tryd.prog 82 #[.int .i64 a0, .int .i64 a1] w fun e w' => e = .returned (.string r) ∧ Below w.heap.size w w' := by
  have HLD := Aside0.mk hLD
  clear hLD
  have HB := Aside0.mk (Below.refl w.heap.size w)
  have H : ((xansi_KeyModifierOptions.f k a0 (([a1] : List Int))).bind fun t162 => (some t162)) = some r := h
  clear h
  obtain ⟨y159, hy159⟩ : ∃ y_ : List Int, y_ = (([a1] : List Int)) := ⟨_, rfl⟩
  replace H : ((xansi_KeyModifierOptions.f k a0 y159).bind fun t162 => (some t162)) = some r := by first | (rw [hy159]; with_reducible exact H) | (have H2_ := (Option.bind_some _ _).symm.trans H; rw [hy159]; with_reducible exact H2_) | (have H2_ := (Option.bind_some _ _).symm.trans H; with_reducible exact H2_) | with_reducible exact H | (rw [hy159]; exact H) | exact H
  have Ny159 := Aside0.mk hy159
  clear hy159
  replace H := Option.bind_eq_some_iff.mp H
  obtain ⟨t162, A30, H⟩ := H
  replace H : (some t162) = some r := H
  have A3 := Aside0.mk A30
  clear A30
  obtain rfl := Option.some.inj H
  go_enter Tryd.func82, Tryd.ntmps82
  go_wp2_with (first | ((with_reducible refine gate_dst (N := 7) rfl ?_); refine Kd.R_lit (Kd.int .i64) _ 3 ?hg (N := 7) ?hd (xs := ([a1] : List Int)) (inner := [.int .i64 a1]) (ok := fun _ => True) (okp := fun _ => True) ?hr ?hp (fun _ hk => hk) trivial (Below.refl _ _) (Nat.le_refl _) (by simp) ?_; (case hd => rfl); (case hg => rfl); (case hr => first | (go_simp; done) | (go_simp; rfl)); (case hp => exact (Reps.one (show Kd.M (Kd.int .i64) _ _ _ a1 [.int .i64 a1] from rfl) (Reps.none _ _))); intro v160 w4 ho5 hb hg_ hnew_; clear hg_ hnew_; (first | rw [← Ny159.out] at ho5 | (simp only [Int.reduceToNat] at ho5; rw [← Ny159.out] at ho5)); have n0_ := Aside0.mk (Kd.R_lower ho5 (below_size (by repeat (first | (with_reducible first | exact HB.out | apply below_alloc | apply Go.Proofs.YtplmmblofhhikaaDoor.Ext.below_bytes | apply pw_below_drewN | apply below_drew1) | exact HB.out)))); have n1_ := Aside0.mk (below_step (by repeat (first | (with_reducible first | exact HB.out | apply below_alloc | apply Go.Proofs.YtplmmblofhhikaaDoor.Ext.below_bytes | apply pw_below_drewN | apply below_drew1) | exact HB.out)) hb); clear HB; have HO161 := n0_; have HB := n1_; clear n0_ n1_; clear hb ho5; obtain ⟨Ao6, co6, eo6⟩ := Kd.R_slice HO161.out; subst eo6) | ((with_reducible refine gate_callee (f := 90) rfl ?_); refine goesL_ (some 8) rfl rfl Tryd.func90 (by kernel_rfl) rfl #[.int .i64 a0, .slice Ao6 y159.length co6] rfl (by (try simp only [List.map_toArray, List.map_cons, List.map_nil]); first | done | rfl | (simp only [List.length_drop, List.length_take]; rfl) | (simp [Act.eval, *]; done) | (simp [Act.eval, *]; unfold wrap64; omega)) ?_; (with_reducible refine (xansi_KeyModifierOptions.calls k a0 _ _ y159 t162 _ ?side1 ?side2 ?side3 A3.out).mono ?_); (case side1 => repeat (first | exact (Kd.R_reads' HO161.out).2.2 | (with_reducible refine Kd.C_alloc ?_ _) | (with_reducible refine Kd.C_drewN ?_ _) | (with_reducible refine Kd.C_drew ?_))); (case side2 => exact (Kd.R_reads' HO161.out).2.1); (case side3 => exact HLD.out.below (by repeat (first | (with_reducible first | exact HB.out | apply below_alloc | apply Go.Proofs.YtplmmblofhhikaaDoor.Ext.below_bytes | apply pw_below_drewN | apply below_drew1) | exact HB.out))); rintro e w7 ⟨rfl, hb⟩; refine ⟨_, rfl, ?_⟩; have n0_ := Aside0.mk (Kd.R_below (by (with_reducible repeat (first | apply Kd.R_alloc | apply Go.Proofs.YtplmmblofhhikaaDoor.Ext.R_bytes | apply Kd.R_drewN | apply Kd.R_drew)); exact HO161.out) hb); have n1_ := Aside0.mk (below_step (by repeat (first | (with_reducible first | exact HB.out | apply below_alloc | apply Go.Proofs.YtplmmblofhhikaaDoor.Ext.below_bytes | apply pw_below_drewN | apply below_drew1) | exact HB.out)) hb); clear HO161; clear HB; have HO161 := n0_; have HB := n1_; clear n0_ n1_; (try clear hb); (try clear hb2); (try clear hk); (try clear hi)))
  go_ret
  exact ⟨by first | rfl | (simp [errW_none, errW_some] <;> rfl) | (simp [*, errW_none, errW_some] <;> rfl), by repeat (first | (with_reducible first | exact HB.out | apply below_alloc | apply Go.Proofs.YtplmmblofhhikaaDoor.Ext.below_bytes | apply pw_below_drewN | apply below_drew1) | exact HB.out)⟩

/-! ### impl_MakePair: function 20 -/
def impl_MakePair.f (k : Nat) (a0 : Int) (a1 : Int) (a2 : Int) : Option (ByteArray) := if a0 = 0 then ((xansi_CursorPosition.f k a1 a2).bind fun t163 => (some t163)) else (if a0 = 1 then ((xansi_HorizontalVerticalPosition.f a1 a2).bind fun t164 => (some t164)) else (if a0 = 2 then ((xansi_SetTopBottomMargins.f a1 a2).bind fun t165 => (some t165)) else (if a0 = 3 then ((xansi_SetLeftRightMargins.f a1 a2).bind fun t166 => (some t166)) else (if a0 = 4 then ((xansi_CursorPositionReport.f k a1 a2).bind fun t167 => (some t167)) else (if a0 = 5 then ((xansi_KittyKeyboard.f a1 a2).bind fun t168 => (some t168)) else (if a0 = 6 then ((xansi_SetKeyModifierOptions.f k a1 a2).bind fun t169 => (some t169)) else (some (⟨#[]⟩ : ByteArray))))))))
theorem impl_MakePair.mono : ∀ a0 a1 a2 k, LeO (impl_MakePair.f k a0 a1 a2) (impl_MakePair.f (k + 1) a0 a1 a2) := by
  intro a0 a1 a2 k
  unfold impl_MakePair.f
  repeat' first
      | (with_reducible exact xansi_CursorPosition.mono _ _ _)
      | (with_reducible exact xansi_CursorPositionReport.mono _ _ _)
      | (with_reducible exact xansi_SetKeyModifierOptions.mono _ _ _)
      | (with_reducible exact LeO.refl _)
      | (with_reducible exact LeO.none _)
      | (with_reducible refine LeO.ite ?_ ?_)
      | (with_reducible refine LeO.bind ?_ (fun _ => ?_))
      | exact xansi_CursorPosition.mono _ _ _
      | exact xansi_CursorPositionReport.mono _ _ _
      | exact xansi_SetKeyModifierOptions.mono _ _ _
      | exact LeO.none _
      | refine LeO.ite ?_ ?_
      | refine LeO.bind ?_ (fun _ => ?_)
set_option maxHeartbeats 8000000 in
set_option maxRecDepth 100000 in
theorem impl_MakePair.calls (k : Nat) (a0 : Int) (a1 : Int) (a2 : Int) (r : ByteArray) (w : World) (hLD : Laid w) (h : impl_MakePair.f k a0 a1 a2 = some r) :
    Calls Tryd.prog 20 #[.int .i64 a0, .int .i64 a1, .int .i64 a2] w fun e w' => e = .returned (.string r) ∧ Below w.heap.size w w' := by
  have HLD := Aside0.mk hLD
  clear hLD
  have HB := Aside0.mk (Below.refl w.heap.size w)
  have H : (if a0 = 0 then ((xansi_CursorPosition.f k a1 a2).bind fun t163 => (some t163)) else (if a0 = 1 then ((xansi_HorizontalVerticalPosition.f a1 a2).bind fun t164 => (some t164)) else (if a0 = 2 then ((xansi_SetTopBottomMargins.f a1 a2).bind fun t165 => (some t165)) else (if a0 = 3 then ((xansi_SetLeftRightMargins.f a1 a2).bind fun t166 => (some t166)) else (if a0 = 4 then ((xansi_CursorPositionReport.f k a1 a2).bind fun t167 => (some t167)) else (if a0 = 5 then ((xansi_KittyKeyboard.f a1 a2).bind fun t168 => (some t168)) else (if a0 = 6 then ((xansi_SetKeyModifierOptions.f k a1 a2).bind fun t169 => (some t169)) else (some (⟨#[]⟩ : ByteArray))))))))) = some r := h
  clear h
  by_cases c4 : a0 = 0
  · rw [if_pos c4] at H
    have c4b0 : (a0 == 0) = true := beq_iff_eq.mpr c4
    have c4b1 : (a0 != 0) = false := bne_eq_false_iff_eq.mpr c4
    clear c4
    replace H := Option.bind_eq_some_iff.mp H
    obtain ⟨t163, A50, H⟩ := H
    replace H : (some t163) = some r := H
    have A5 := Aside0.mk A50
    clear A50
    obtain rfl := Option.some.inj H
    go_enter Tryd.func20, Tryd.ntmps20
    go_wp2_with (first | ((with_reducible refine gate_callee (f := 76) rfl ?_); refine goesL_ (some 16) rfl rfl Tryd.func76 (by kernel_rfl) rfl #[.int .i64 a1, .int .i64 a2] rfl (by (try simp only [List.map_toArray, List.map_cons, List.map_nil]); first | done | rfl | (simp only [List.length_drop, List.length_take]; rfl) | (simp [Act.eval, *]; done) | (simp [Act.eval, *]; unfold wrap64; omega)) ?_; (with_reducible refine (xansi_CursorPosition.calls k a1 a2 t163 _ ?side1 A5.out).mono ?_); (case side1 => exact HLD.out.below (by repeat (first | (with_reducible first | exact HB.out | apply below_alloc | apply Go.Proofs.YtplmmblofhhikaaDoor.Ext.below_bytes | apply pw_below_drewN | apply below_drew1) | exact HB.out))); rintro e w6 ⟨rfl, hb⟩; refine ⟨_, rfl, ?_⟩; have n0_ := Aside0.mk (below_step (by repeat (first | (with_reducible first | exact HB.out | apply below_alloc | apply Go.Proofs.YtplmmblofhhikaaDoor.Ext.below_bytes | apply pw_below_drewN | apply below_drew1) | exact HB.out)) hb); clear HB; have HB := n0_; clear n0_; (try clear hb); (try clear hb2); (try clear hk); (try clear hi)))
    go_ret
    exact ⟨by first | rfl | (simp [errW_none, errW_some] <;> rfl) | (simp [*, errW_none, errW_some] <;> rfl), by repeat (first | (with_reducible first | exact HB.out | apply below_alloc | apply Go.Proofs.YtplmmblofhhikaaDoor.Ext.below_bytes | apply pw_below_drewN | apply below_drew1) | exact HB.out)⟩
  · rw [if_neg c4] at H
    have c4b0 : (a0 == 0) = false := beq_eq_false_iff_ne.mpr c4
    have c4b1 : (a0 != 0) = true := bne_iff_ne.mpr c4
    by_cases c7 : a0 = 1
    · rw [if_pos c7] at H
      have c7b0 : (a0 == 1) = true := beq_iff_eq.mpr c7
      have c7b1 : (a0 != 1) = false := bne_eq_false_iff_eq.mpr c7
      clear c7
      replace H := Option.bind_eq_some_iff.mp H
      obtain ⟨t164, A80, H⟩ := H
      replace H : (some t164) = some r := H
      have A8 := Aside0.mk A80
      clear A80
      obtain rfl := Option.some.inj H
      go_enter Tryd.func20, Tryd.ntmps20
      go_wp2_with (first | ((with_reducible refine gate_callee (f := 77) rfl ?_); refine goesL_ (some 21) rfl rfl Tryd.func77 (by kernel_rfl) rfl #[.int .i64 a1, .int .i64 a2] rfl (by (try simp only [List.map_toArray, List.map_cons, List.map_nil]); first | done | rfl | (simp only [List.length_drop, List.length_take]; rfl) | (simp [Act.eval, *]; done) | (simp [Act.eval, *]; unfold wrap64; omega)) ?_; (with_reducible refine (xansi_HorizontalVerticalPosition.calls a1 a2 t164 _ ?side1 A8.out).mono ?_); (case side1 => exact HLD.out.below (by repeat (first | (with_reducible first | exact HB.out | apply below_alloc | apply Go.Proofs.YtplmmblofhhikaaDoor.Ext.below_bytes | apply pw_below_drewN | apply below_drew1) | exact HB.out))); rintro e w9 ⟨rfl, hb⟩; refine ⟨_, rfl, ?_⟩; have n0_ := Aside0.mk (below_step (by repeat (first | (with_reducible first | exact HB.out | apply below_alloc | apply Go.Proofs.YtplmmblofhhikaaDoor.Ext.below_bytes | apply pw_below_drewN | apply below_drew1) | exact HB.out)) hb); clear HB; have HB := n0_; clear n0_; (try clear hb); (try clear hb2); (try clear hk); (try clear hi)))
      go_ret
      exact ⟨by first | rfl | (simp [errW_none, errW_some] <;> rfl) | (simp [*, errW_none, errW_some] <;> rfl), by repeat (first | (with_reducible first | exact HB.out | apply below_alloc | apply Go.Proofs.YtplmmblofhhikaaDoor.Ext.below_bytes | apply pw_below_drewN | apply below_drew1) | exact HB.out)⟩
    · rw [if_neg c7] at H
      have c7b0 : (a0 == 1) = false := beq_eq_false_iff_ne.mpr c7
      have c7b1 : (a0 != 1) = true := bne_iff_ne.mpr c7
      by_cases c10 : a0 = 2
      · rw [if_pos c10] at H
        have c10b0 : (a0 == 2) = true := beq_iff_eq.mpr c10
        have c10b1 : (a0 != 2) = false := bne_eq_false_iff_eq.mpr c10
        clear c10
        replace H := Option.bind_eq_some_iff.mp H
        obtain ⟨t165, A110, H⟩ := H
        replace H : (some t165) = some r := H
        have A11 := Aside0.mk A110
        clear A110
        obtain rfl := Option.some.inj H
        go_enter Tryd.func20, Tryd.ntmps20
        go_wp2_with (first | ((with_reducible refine gate_callee (f := 78) rfl ?_); refine goesL_ (some 26) rfl rfl Tryd.func78 (by kernel_rfl) rfl #[.int .i64 a1, .int .i64 a2] rfl (by (try simp only [List.map_toArray, List.map_cons, List.map_nil]); first | done | rfl | (simp only [List.length_drop, List.length_take]; rfl) | (simp [Act.eval, *]; done) | (simp [Act.eval, *]; unfold wrap64; omega)) ?_; (with_reducible refine (xansi_SetTopBottomMargins.calls a1 a2 t165 _ ?side1 A11.out).mono ?_); (case side1 => exact HLD.out.below (by repeat (first | (with_reducible first | exact HB.out | apply below_alloc | apply Go.Proofs.YtplmmblofhhikaaDoor.Ext.below_bytes | apply pw_below_drewN | apply below_drew1) | exact HB.out))); rintro e w12 ⟨rfl, hb⟩; refine ⟨_, rfl, ?_⟩; have n0_ := Aside0.mk (below_step (by repeat (first | (with_reducible first | exact HB.out | apply below_alloc | apply Go.Proofs.YtplmmblofhhikaaDoor.Ext.below_bytes | apply pw_below_drewN | apply below_drew1) | exact HB.out)) hb); clear HB; have HB := n0_; clear n0_; (try clear hb); (try clear hb2); (try clear hk); (try clear hi)))
        go_ret
        exact ⟨by first | rfl | (simp [errW_none, errW_some] <;> rfl) | (simp [*, errW_none, errW_some] <;> rfl), by repeat (first | (with_reducible first | exact HB.out | apply below_alloc | apply Go.Proofs.YtplmmblofhhikaaDoor.Ext.below_bytes | apply pw_below_drewN | apply below_drew1) | exact HB.out)⟩
      · rw [if_neg c10] at H
        have c10b0 : (a0 == 2) = false := beq_eq_false_iff_ne.mpr c10
        have c10b1 : (a0 != 2) = true := bne_iff_ne.mpr c10
        by_cases c13 : a0 = 3
        · rw [if_pos c13] at H
          have c13b0 : (a0 == 3) = true := beq_iff_eq.mpr c13
          have c13b1 : (a0 != 3) = false := bne_eq_false_iff_eq.mpr c13
          clear c13
          replace H := Option.bind_eq_some_iff.mp H
          obtain ⟨t166, A140, H⟩ := H
          replace H : (some t166) = some r := H
          have A14 := Aside0.mk A140
          clear A140
          obtain rfl := Option.some.inj H
          go_enter Tryd.func20, Tryd.ntmps20
          go_wp2_with (first | ((with_reducible refine gate_callee (f := 79) rfl ?_); refine goesL_ (some 31) rfl rfl Tryd.func79 (by kernel_rfl) rfl #[.int .i64 a1, .int .i64 a2] rfl (by (try simp only [List.map_toArray, List.map_cons, List.map_nil]); first | done | rfl | (simp only [List.length_drop, List.length_take]; rfl) | (simp [Act.eval, *]; done) | (simp [Act.eval, *]; unfold wrap64; omega)) ?_; (with_reducible refine (xansi_SetLeftRightMargins.calls a1 a2 t166 _ ?side1 A14.out).mono ?_); (case side1 => exact HLD.out.below (by repeat (first | (with_reducible first | exact HB.out | apply below_alloc | apply Go.Proofs.YtplmmblofhhikaaDoor.Ext.below_bytes | apply pw_below_drewN | apply below_drew1) | exact HB.out))); rintro e w15 ⟨rfl, hb⟩; refine ⟨_, rfl, ?_⟩; have n0_ := Aside0.mk (below_step (by repeat (first | (with_reducible first | exact HB.out | apply below_alloc | apply Go.Proofs.YtplmmblofhhikaaDoor.Ext.below_bytes | apply pw_below_drewN | apply below_drew1) | exact HB.out)) hb); clear HB; have HB := n0_; clear n0_; (try clear hb); (try clear hb2); (try clear hk); (try clear hi)))
          go_ret
          exact ⟨by first | rfl | (simp [errW_none, errW_some] <;> rfl) | (simp [*, errW_none, errW_some] <;> rfl), by repeat (first | (with_reducible first | exact HB.out | apply below_alloc | apply Go.Proofs.YtplmmblofhhikaaDoor.Ext.below_bytes | apply pw_below_drewN | apply below_drew1) | exact HB.out)⟩
        · rw [if_neg c13] at H
          have c13b0 : (a0 == 3) = false := beq_eq_false_iff_ne.mpr c13
          have c13b1 : (a0 != 3) = true := bne_iff_ne.mpr c13
          by_cases c16 : a0 = 4
          · rw [if_pos c16] at H
            have c16b0 : (a0 == 4) = true := beq_iff_eq.mpr c16
            have c16b1 : (a0 != 4) = false := bne_eq_false_iff_eq.mpr c16
            clear c16
            replace H := Option.bind_eq_some_iff.mp H
            obtain ⟨t167, A170, H⟩ := H
            replace H : (some t167) = some r := H
            have A17 := Aside0.mk A170
            clear A170
            obtain rfl := Option.some.inj H
            go_enter Tryd.func20, Tryd.ntmps20
            go_wp2_with (first | ((with_reducible refine gate_callee (f := 80) rfl ?_); refine goesL_ (some 36) rfl rfl Tryd.func80 (by kernel_rfl) rfl #[.int .i64 a1, .int .i64 a2] rfl (by (try simp only [List.map_toArray, List.map_cons, List.map_nil]); first | done | rfl | (simp only [List.length_drop, List.length_take]; rfl) | (simp [Act.eval, *]; done) | (simp [Act.eval, *]; unfold wrap64; omega)) ?_; (with_reducible refine (xansi_CursorPositionReport.calls k a1 a2 t167 _ ?side1 A17.out).mono ?_); (case side1 => exact HLD.out.below (by repeat (first | (with_reducible first | exact HB.out | apply below_alloc | apply Go.Proofs.YtplmmblofhhikaaDoor.Ext.below_bytes | apply pw_below_drewN | apply below_drew1) | exact HB.out))); rintro e w18 ⟨rfl, hb⟩; refine ⟨_, rfl, ?_⟩; have n0_ := Aside0.mk (below_step (by repeat (first | (with_reducible first | exact HB.out | apply below_alloc | apply Go.Proofs.YtplmmblofhhikaaDoor.Ext.below_bytes | apply pw_below_drewN | apply below_drew1) | exact HB.out)) hb); clear HB; have HB := n0_; clear n0_; (try clear hb); (try clear hb2); (try clear hk); (try clear hi)))
            go_ret
            exact ⟨by first | rfl | (simp [errW_none, errW_some] <;> rfl) | (simp [*, errW_none, errW_some] <;> rfl), by repeat (first | (with_reducible first | exact HB.out | apply below_alloc | apply Go.Proofs.YtplmmblofhhikaaDoor.Ext.below_bytes | apply pw_below_drewN | apply below_drew1) | exact HB.out)⟩
          · rw [if_neg c16] at H
            have c16b0 : (a0 == 4) = false := beq_eq_false_iff_ne.mpr c16
            have c16b1 : (a0 != 4) = true := bne_iff_ne.mpr c16
            by_cases c19 : a0 = 5
            · rw [if_pos c19] at H
              have c19b0 : (a0 == 5) = true := beq_iff_eq.mpr c19
              have c19b1 : (a0 != 5) = false := bne_eq_false_iff_eq.mpr c19
              clear c19
              replace H := Option.bind_eq_some_iff.mp H
              obtain ⟨t168, A200, H⟩ := H
              replace H : (some t168) = some r := H
              have A20 := Aside0.mk A200
              clear A200
              obtain rfl := Option.some.inj H
              go_enter Tryd.func20, Tryd.ntmps20
              go_wp2_with (first | ((with_reducible refine gate_callee (f := 81) rfl ?_); refine goesL_ (some 41) rfl rfl Tryd.func81 (by kernel_rfl) rfl #[.int .i64 a1, .int .i64 a2] rfl (by (try simp only [List.map_toArray, List.map_cons, List.map_nil]); first | done | rfl | (simp only [List.length_drop, List.length_take]; rfl) | (simp [Act.eval, *]; done) | (simp [Act.eval, *]; unfold wrap64; omega)) ?_; (with_reducible refine (xansi_KittyKeyboard.calls a1 a2 t168 _ ?side1 A20.out).mono ?_); (case side1 => exact HLD.out.below (by repeat (first | (with_reducible first | exact HB.out | apply below_alloc | apply Go.Proofs.YtplmmblofhhikaaDoor.Ext.below_bytes | apply pw_below_drewN | apply below_drew1) | exact HB.out))); rintro e w21 ⟨rfl, hb⟩; refine ⟨_, rfl, ?_⟩; have n0_ := Aside0.mk (below_step (by repeat (first | (with_reducible first | exact HB.out | apply below_alloc | apply Go.Proofs.YtplmmblofhhikaaDoor.Ext.below_bytes | apply pw_below_drewN | apply below_drew1) | exact HB.out)) hb); clear HB; have HB := n0_; clear n0_; (try clear hb); (try clear hb2); (try clear hk); (try clear hi)))
              go_ret
              exact ⟨by first | rfl | (simp [errW_none, errW_some] <;> rfl) | (simp [*, errW_none, errW_some] <;> rfl), by repeat (first | (with_reducible first | exact HB.out | apply below_alloc | apply Go.Proofs.YtplmmblofhhikaaDoor.Ext.below_bytes | apply pw_below_drewN | apply below_drew1) | exact HB.out)⟩
            · rw [if_neg c19] at H
              have c19b0 : (a0 == 5) = false := beq_eq_false_iff_ne.mpr c19
              have c19b1 : (a0 != 5) = true := bne_iff_ne.mpr c19
              by_cases c22 : a0 = 6
              · rw [if_pos c22] at H
                have c22b0 : (a0 == 6) = true := beq_iff_eq.mpr c22
                have c22b1 : (a0 != 6) = false := bne_eq_false_iff_eq.mpr c22
                clear c22
                replace H := Option.bind_eq_some_iff.mp H
                obtain ⟨t169, A230, H⟩ := H
                replace H : (some t169) = some r := H
                have A23 := Aside0.mk A230
                clear A230
                obtain rfl := Option.some.inj H
                go_enter Tryd.func20, Tryd.ntmps20
                go_wp2_with (first | ((with_reducible refine gate_callee (f := 82) rfl ?_); refine goesL_ (some 46) rfl rfl Tryd.func82 (by kernel_rfl) rfl #[.int .i64 a1, .int .i64 a2] rfl (by (try simp only [List.map_toArray, List.map_cons, List.map_nil]); first | done | rfl | (simp only [List.length_drop, List.length_take]; rfl) | (simp [Act.eval, *]; done) | (simp [Act.eval, *]; unfold wrap64; omega)) ?_; (with_reducible refine (xansi_SetKeyModifierOptions.calls k a1 a2 t169 _ ?side1 A23.out).mono ?_); (case side1 => exact HLD.out.below (by repeat (first | (with_reducible first | exact HB.out | apply below_alloc | apply Go.Proofs.YtplmmblofhhikaaDoor.Ext.below_bytes | apply pw_below_drewN | apply below_drew1) | exact HB.out))); rintro e w24 ⟨rfl, hb⟩; refine ⟨_, rfl, ?_⟩; have n0_ := Aside0.mk (below_step (by repeat (first | (with_reducible first | exact HB.out | apply below_alloc | apply Go.Proofs.YtplmmblofhhikaaDoor.Ext.below_bytes | apply pw_below_drewN | apply below_drew1) | exact HB.out)) hb); clear HB; have HB := n0_; clear n0_; (try clear hb); (try clear hb2); (try clear hk); (try clear hi)))
                go_ret
                exact ⟨by first | rfl | (simp [errW_none, errW_some] <;> rfl) | (simp [*, errW_none, errW_some] <;> rfl), by repeat (first | (with_reducible first | exact HB.out | apply below_alloc | apply Go.Proofs.YtplmmblofhhikaaDoor.Ext.below_bytes | apply pw_below_drewN | apply below_drew1) | exact HB.out)⟩
              · rw [if_neg c22] at H
                have c22b0 : (a0 == 6) = false := beq_eq_false_iff_ne.mpr c22
                have c22b1 : (a0 != 6) = true := bne_iff_ne.mpr c22
                obtain rfl := Option.some.inj H
                go_enter Tryd.func20, Tryd.ntmps20
                go_wp2
                go_ret
                exact ⟨by first | rfl | (simp [errW_none, errW_some] <;> rfl) | (simp [*, errW_none, errW_some] <;> rfl), by repeat (first | (with_reducible first | exact HB.out | apply below_alloc | apply Go.Proofs.YtplmmblofhhikaaDoor.Ext.below_bytes | apply pw_below_drewN | apply below_drew1) | exact HB.out)⟩

end Go.Proofs.YtplmmblofhhikaaDoor.PV
