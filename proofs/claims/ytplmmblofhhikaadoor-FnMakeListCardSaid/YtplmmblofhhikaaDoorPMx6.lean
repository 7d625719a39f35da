-- Written by wip/pp.py, a program of this session, out of the translation. Not trusted: Lean checks it.
import Derived.Test.YtplmmblofhhikaaDoorPMx0
namespace Go.Proofs.YtplmmblofhhikaaDoor.PM
open Go.RowKit Go.Proofs.YtplmmblofhhikaaDoor.Or Go.Proofs.YtplmmblofhhikaaDoorW.PrintWords Go.Proofs.YtplmmblofhhikaaDoorW.PrintLast Go.Proofs.YtplmmblofhhikaaDoorW.PrintMore
attribute [local go_sem] max2_int min2_int max_two min_two max_three min_three max_four min_four   -- for this text's walks alone
attribute [local go_sem] Ext.wrap64_mod256 Ext.wrap64_mod32 Ext.i64_mod256 Ext.i64_mod32 Ext.i64_u8 Ext.w64_u8 Ext.i64_u32 Ext.w64_u32 
attribute [-simp] List.drop_one List.length_drop   -- a list that is cut keeps its form
set_option linter.unusedVariables false
set_option linter.unusedSimpArgs false

/-! ### xansi_ExtendedCursorPositionReport: function 91 -/
mutual
def xansi_ExtendedCursorPositionReport.j0 : Nat → Int → Int → Int → Option (ByteArray)
  | 0, _, _, _ => none
  | k + 1, x0, x1, x2 => if x1 < 1 then (xansi_ExtendedCursorPositionReport.j1 k x0 1 x2) else (xansi_ExtendedCursorPositionReport.j1 k x0 x1 x2)
def xansi_ExtendedCursorPositionReport.j1 : Nat → Int → Int → Int → Option (ByteArray)
  | 0, _, _, _ => none
  | k + 1, x0, x1, x2 => if x2 < 1 then ((strconv_Itoa.f x0).bind fun t212 => (if 3 + t212.size ≤ 9223372036854775807 then (if 3 + t212.size + 1 ≤ 9223372036854775807 then ((strconv_Itoa.f x1).bind fun t213 => (if 3 + t212.size + 1 + t213.size ≤ 9223372036854775807 then (if 3 + t212.size + 1 + t213.size + 1 ≤ 9223372036854775807 then (some (((((⟨#[27, 91, 63]⟩ : ByteArray) ++ t212) ++ (⟨#[59]⟩ : ByteArray)) ++ t213) ++ (⟨#[82]⟩ : ByteArray))) else (none)) else (none))) else (none)) else (none))) else ((strconv_Itoa.f x0).bind fun t214 => (if 3 + t214.size ≤ 9223372036854775807 then (if 3 + t214.size + 1 ≤ 9223372036854775807 then ((strconv_Itoa.f x1).bind fun t215 => (if 3 + t214.size + 1 + t215.size ≤ 9223372036854775807 then (if 3 + t214.size + 1 + t215.size + 1 ≤ 9223372036854775807 then ((strconv_Itoa.f x2).bind fun t216 => (if 3 + t214.size + 1 + t215.size + 1 + t216.size ≤ 9223372036854775807 then (if 3 + t214.size + 1 + t215.size + 1 + t216.size + 1 ≤ 9223372036854775807 then (some (((((((⟨#[27, 91, 63]⟩ : ByteArray) ++ t214) ++ (⟨#[59]⟩ : ByteArray)) ++ t215) ++ (⟨#[59]⟩ : ByteArray)) ++ t216) ++ (⟨#[82]⟩ : ByteArray))) else (none)) else (none))) else (none)) else (none))) else (none)) else (none)))
end
def xansi_ExtendedCursorPositionReport.f (k : Nat) (a0 : Int) (a1 : Int) (a2 : Int) : Option (ByteArray) := if a0 < 1 then (xansi_ExtendedCursorPositionReport.j0 k 1 a1 a2) else (xansi_ExtendedCursorPositionReport.j0 k a0 a1 a2)
theorem xansi_ExtendedCursorPositionReport.mono_l : ∀ k, (∀ y0 y1 y2, LeO (xansi_ExtendedCursorPositionReport.j0 k y0 y1 y2) (xansi_ExtendedCursorPositionReport.j0 (k + 1) y0 y1 y2)) ∧ (∀ y0 y1 y2, LeO (xansi_ExtendedCursorPositionReport.j1 k y0 y1 y2) (xansi_ExtendedCursorPositionReport.j1 (k + 1) y0 y1 y2))
  | 0 => ⟨fun _ _ _ r h => by simp [xansi_ExtendedCursorPositionReport.j0] at h, fun _ _ _ r h => by simp [xansi_ExtendedCursorPositionReport.j1] at h⟩
  | k + 1 => by
    obtain ⟨ih0, ih1⟩ := xansi_ExtendedCursorPositionReport.mono_l k
    refine ⟨?_, ?_⟩
    · intro y0 y1 y2
      unfold xansi_ExtendedCursorPositionReport.j0
      repeat' first
      | (with_reducible exact ih0 _ _ _)
      | (with_reducible exact ih1 _ _ _)
      | (with_reducible exact LeO.refl _)
      | (with_reducible exact LeO.none _)
      | (with_reducible refine LeO.ite ?_ ?_)
      | (with_reducible refine LeO.bind ?_ (fun _ => ?_))
      | exact ih0 _ _ _
      | exact ih1 _ _ _
      | exact LeO.none _
      | refine LeO.ite ?_ ?_
      | refine LeO.bind ?_ (fun _ => ?_)
    · intro y0 y1 y2
      unfold xansi_ExtendedCursorPositionReport.j1
      repeat' first
      | (with_reducible exact ih0 _ _ _)
      | (with_reducible exact ih1 _ _ _)
      | (with_reducible exact LeO.refl _)
      | (with_reducible exact LeO.none _)
      | (with_reducible refine LeO.ite ?_ ?_)
      | (with_reducible refine LeO.bind ?_ (fun _ => ?_))
      | exact ih0 _ _ _
      | exact ih1 _ _ _
      | exact LeO.none _
      | refine LeO.ite ?_ ?_
      | refine LeO.bind ?_ (fun _ => ?_)
theorem xansi_ExtendedCursorPositionReport.mono : ∀ a0 a1 a2 k, LeO (xansi_ExtendedCursorPositionReport.f k a0 a1 a2) (xansi_ExtendedCursorPositionReport.f (k + 1) a0 a1 a2) := by
  intro a0 a1 a2 k
  obtain ⟨ih0, ih1⟩ := xansi_ExtendedCursorPositionReport.mono_l k
  unfold xansi_ExtendedCursorPositionReport.f
  repeat' first
      | (with_reducible exact ih0 _ _ _)
      | (with_reducible exact ih1 _ _ _)
      | (with_reducible exact LeO.refl _)
      | (with_reducible exact LeO.none _)
      | (with_reducible refine LeO.ite ?_ ?_)
      | (with_reducible refine LeO.bind ?_ (fun _ => ?_))
      | exact ih0 _ _ _
      | exact ih1 _ _ _
      | exact LeO.none _
      | refine LeO.ite ?_ ?_
      | refine LeO.bind ?_ (fun _ => ?_)
set_option maxHeartbeats 8000000 in
set_option maxRecDepth 100000 in
theorem xansi_ExtendedCursorPositionReport.calls (k : Nat) (a0 : Int) (a1 : Int) (a2 : Int) (r : ByteArray) (w : World) (hLD : Laid w) (h : xansi_ExtendedCursorPositionReport.f k a0 a1 a2 = some r) :
    Calls Tryd.prog 91 #[.int .i64 a0, .int .i64 a1, .int .i64 a2] w fun e w' => e = .returned (.string r) ∧ Below w.heap.size w w' := by
  have HLD := Aside0.mk hLD
  clear hLD
  have HB := Aside0.mk (Below.refl w.heap.size w)
  have H : (if a0 < 1 then (xansi_ExtendedCursorPositionReport.j0 k 1 a1 a2) else (xansi_ExtendedCursorPositionReport.j0 k a0 a1 a2)) = some r := h
  clear h
  have HC4 := Aside0.mk H
  clear H
  go_enter Tryd.func91, Tryd.ntmps91
  go_upto_if 8 with (fail)
  go_cut [0] (fun v0 wc => ∃ (kq : Nat) (x0_3 : Int), v0 = .int .i64 x0_3 ∧ Aside0 (xansi_ExtendedCursorPositionReport.j0 kq x0_3 a1 a2 = some r) ∧ Aside0 (kq ≤ k) ∧ Aside0 (Below w.heap.size w wc))
  case first =>
    have H := HC4.out
    clear HC4
    by_cases c5 : a0 < 1
    · rw [if_pos c5] at H
      have c5b0 : decide (a0 < 1) = true := decide_eq_true c5
      clear c5
      (first | rw [c5b0] | (simp only [i64_w, i32_w]; rw [c5b0]) | skip)
      have H' := Aside0.mk H
      clear H
      go_wp2
      go_meet
      case rel => exact ⟨_, (1), (by first | rfl | (simp; done) | (simp [*]; done)), H', ⟨by first | omega | exact Nat.le_refl _⟩, ⟨by repeat (first | (with_reducible first | exact HB.out | apply below_alloc | apply Ext.below_bytes | apply pw_below_drewN | apply below_drew1) | exact HB.out)⟩⟩
    · rw [if_neg c5] at H
      have c5b0 : decide (a0 < 1) = false := decide_eq_false c5
      clear c5
      (first | rw [c5b0] | (simp only [i64_w, i32_w]; rw [c5b0]) | skip)
      have H' := Aside0.mk H
      clear H
      go_wp2
      go_meet
      case rel => exact ⟨_, (a0), (by first | rfl | (simp; done) | (simp [*]; done)), H', ⟨by first | omega | exact Nat.le_refl _⟩, ⟨by repeat (first | (with_reducible first | exact HB.out | apply below_alloc | apply Ext.below_bytes | apply pw_below_drewN | apply below_drew1) | exact HB.out)⟩⟩
  case rest =>
    clear HC4
    try clear p2
    try clear c5
    try clear c5b0
    obtain ⟨kq, x0_3, rfl, HA, HJ3, HB⟩ := hcut
    cases kq with
    | zero => exact absurd HA.out (by simp [xansi_ExtendedCursorPositionReport.j0])
    | succ kj3 =>
      have H := HA.out
      clear HA
      simp only [xansi_ExtendedCursorPositionReport.j0] at H
      have HC6 := Aside0.mk H
      clear H
      go_upto_if 10 with (fail)
      go_cut [1] (fun v1 wc => ∃ (kq : Nat) (x1_5 : Int), v1 = .int .i64 x1_5 ∧ Aside0 (xansi_ExtendedCursorPositionReport.j1 kq x0_3 x1_5 a2 = some r) ∧ Aside0 (kq ≤ kj3) ∧ Aside0 (Below w.heap.size w wc))
      case first =>
        have H := HC6.out
        clear HC6
        by_cases c7 : a1 < 1
        · rw [if_pos c7] at H
          have c7b0 : decide (a1 < 1) = true := decide_eq_true c7
          clear c7
          (first | rw [c7b0] | (simp only [i64_w, i32_w]; rw [c7b0]) | skip)
          have H' := Aside0.mk H
          clear H
          go_wp2
          go_meet
          case rel => exact ⟨_, (1), (by first | rfl | (simp; done) | (simp [*]; done)), H', ⟨by have := HJ3.out; first | omega | exact Nat.le_refl _⟩, ⟨by repeat (first | (with_reducible first | exact HB.out | apply below_alloc | apply Ext.below_bytes | apply pw_below_drewN | apply below_drew1) | exact HB.out)⟩⟩
        · rw [if_neg c7] at H
          have c7b0 : decide (a1 < 1) = false := decide_eq_false c7
          clear c7
          (first | rw [c7b0] | (simp only [i64_w, i32_w]; rw [c7b0]) | skip)
          have H' := Aside0.mk H
          clear H
          go_wp2
          go_meet
          case rel => exact ⟨_, (a1), (by first | rfl | (simp; done) | (simp [*]; done)), H', ⟨by have := HJ3.out; first | omega | exact Nat.le_refl _⟩, ⟨by repeat (first | (with_reducible first | exact HB.out | apply below_alloc | apply Ext.below_bytes | apply pw_below_drewN | apply below_drew1) | exact HB.out)⟩⟩
      case rest =>
        clear HC6
        try clear p2
        try clear c5
        try clear c5b0
        try clear c7
        try clear c7b0
        try clear p2
        obtain ⟨kq, x1_5, rfl, HA, HJ5, HB⟩ := hcut
        cases kq with
        | zero => exact absurd HA.out (by simp [xansi_ExtendedCursorPositionReport.j1])
        | succ kj5 =>
          have H := HA.out
          clear HA
          simp only [xansi_ExtendedCursorPositionReport.j1] at H
          by_cases c8 : a2 < 1
          · rw [if_pos c8] at H
            have c8b0 : decide (a2 < 1) = true := decide_eq_true c8
            clear c8
            replace H := Option.bind_eq_some_iff.mp H
            obtain ⟨t212, A90, H⟩ := H
            replace H : (if 3 + t212.size ≤ 9223372036854775807 then (if 3 + t212.size + 1 ≤ 9223372036854775807 then ((strconv_Itoa.f x1_5).bind fun t213 => (if 3 + t212.size + 1 + t213.size ≤ 9223372036854775807 then (if 3 + t212.size + 1 + t213.size + 1 ≤ 9223372036854775807 then (some (((((⟨#[27, 91, 63]⟩ : ByteArray) ++ t212) ++ (⟨#[59]⟩ : ByteArray)) ++ t213) ++ (⟨#[82]⟩ : ByteArray))) else (none)) else (none))) else (none)) else (none)) = some r := H
            have A9 := Aside0.mk A90
            clear A90
            by_cases c10 : 3 + t212.size ≤ 9223372036854775807
            · rw [if_pos c10] at H
              have c10b0 := eq_true c10
              have c10b1 : decide (3 + t212.size ≤ 9223372036854775807) = true := decide_eq_true c10
              try have c10b2 : (9223372036854775807 < 3 + t212.size) = False := eq_false (Nat.not_lt.2 c10)
              by_cases c11 : 3 + t212.size + 1 ≤ 9223372036854775807
              · rw [if_pos c11] at H
                have c11b0 := eq_true c11
                have c11b1 : decide (3 + t212.size + 1 ≤ 9223372036854775807) = true := decide_eq_true c11
                try have c11b2 : (9223372036854775807 < 3 + t212.size + 1) = False := eq_false (Nat.not_lt.2 c11)
                replace H := Option.bind_eq_some_iff.mp H
                obtain ⟨t213, A120, H⟩ := H
                replace H : (if 3 + t212.size + 1 + t213.size ≤ 9223372036854775807 then (if 3 + t212.size + 1 + t213.size + 1 ≤ 9223372036854775807 then (some (((((⟨#[27, 91, 63]⟩ : ByteArray) ++ t212) ++ (⟨#[59]⟩ : ByteArray)) ++ t213) ++ (⟨#[82]⟩ : ByteArray))) else (none)) else (none)) = some r := H
                have A12 := Aside0.mk A120
                clear A120
                by_cases c13 : 3 + t212.size + 1 + t213.size ≤ 9223372036854775807
                · rw [if_pos c13] at H
                  have c13b0 := eq_true c13
                  have c13b1 : decide (3 + t212.size + 1 + t213.size ≤ 9223372036854775807) = true := decide_eq_true c13
                  try have c13b2 : (9223372036854775807 < 3 + t212.size + 1 + t213.size) = False := eq_false (Nat.not_lt.2 c13)
                  by_cases c14 : 3 + t212.size + 1 + t213.size + 1 ≤ 9223372036854775807
                  · rw [if_pos c14] at H
                    have c14b0 := eq_true c14
                    have c14b1 : decide (3 + t212.size + 1 + t213.size + 1 ≤ 9223372036854775807) = true := decide_eq_true c14
                    try have c14b2 : (9223372036854775807 < 3 + t212.size + 1 + t213.size + 1) = False := eq_false (Nat.not_lt.2 c14)
                    obtain rfl := Option.some.inj H
                    go_wp2_with (first | ((with_reducible refine gate_callee (f := 109) rfl ?_); refine goesL_ (some 14) rfl rfl Tryd.func109 (by kernel_rfl) rfl #[.int .i64 x0_3] rfl (by (try simp only [List.map_toArray, List.map_cons, List.map_nil]); first | done | rfl | (simp only [List.length_drop, List.length_take]; rfl) | (simp [Act.eval, *]; done)) ?_; (with_reducible refine (strconv_Itoa.calls x0_3 t212 _ ?side1 A9.out).mono ?_); (case side1 => exact HLD.out.below (by repeat (first | (with_reducible first | exact HB.out | apply below_alloc | apply Ext.below_bytes | apply pw_below_drewN | apply below_drew1) | exact HB.out))); rintro e w15 ⟨rfl, hb⟩; refine ⟨_, rfl, ?_⟩; have n0_ := Aside0.mk (below_step (by repeat (first | (with_reducible first | exact HB.out | apply below_alloc | apply Ext.below_bytes | apply pw_below_drewN | apply below_drew1) | exact HB.out)) hb); clear HB; have HB := n0_; clear n0_; (try clear hb); (try clear hb2); (try clear hk); (try clear hi)) | ((with_reducible refine gate_callee (f := 109) rfl ?_); refine goesL_ (some 18) rfl rfl Tryd.func109 (by kernel_rfl) rfl #[.int .i64 x1_5] rfl (by (try simp only [List.map_toArray, List.map_cons, List.map_nil]); first | done | rfl | (simp only [List.length_drop, List.length_take]; rfl) | (simp [Act.eval, *]; done)) ?_; (with_reducible refine (strconv_Itoa.calls x1_5 t213 _ ?side1 A12.out).mono ?_); (case side1 => exact HLD.out.below (by repeat (first | (with_reducible first | exact HB.out | apply below_alloc | apply Ext.below_bytes | apply pw_below_drewN | apply below_drew1) | exact HB.out))); rintro e w16 ⟨rfl, hb⟩; refine ⟨_, rfl, ?_⟩; have n0_ := Aside0.mk (below_step (by repeat (first | (with_reducible first | exact HB.out | apply below_alloc | apply Ext.below_bytes | apply pw_below_drewN | apply below_drew1) | exact HB.out)) hb); clear HB; have HB := n0_; clear n0_; (try clear hb); (try clear hb2); (try clear hk); (try clear hi)))
                    go_ret
                    exact ⟨by first | rfl | (simp [errW_none, errW_some] <;> rfl) | (simp [*, errW_none, errW_some] <;> rfl), by repeat (first | (with_reducible first | exact HB.out | apply below_alloc | apply Ext.below_bytes | apply pw_below_drewN | apply below_drew1) | exact HB.out)⟩
                  · rw [if_neg c14] at H
                    exact absurd H (by simp)
                · rw [if_neg c13] at H
                  exact absurd H (by simp)
              · rw [if_neg c11] at H
                exact absurd H (by simp)
            · rw [if_neg c10] at H
              exact absurd H (by simp)
          · rw [if_neg c8] at H
            have c8b0 : decide (a2 < 1) = false := decide_eq_false c8
            clear c8
            replace H := Option.bind_eq_some_iff.mp H
            obtain ⟨t214, A170, H⟩ := H
            replace H : (if 3 + t214.size ≤ 9223372036854775807 then (if 3 + t214.size + 1 ≤ 9223372036854775807 then ((strconv_Itoa.f x1_5).bind fun t215 => (if 3 + t214.size + 1 + t215.size ≤ 9223372036854775807 then (if 3 + t214.size + 1 + t215.size + 1 ≤ 9223372036854775807 then ((strconv_Itoa.f a2).bind fun t216 => (if 3 + t214.size + 1 + t215.size + 1 + t216.size ≤ 9223372036854775807 then (if 3 + t214.size + 1 + t215.size + 1 + t216.size + 1 ≤ 9223372036854775807 then (some (((((((⟨#[27, 91, 63]⟩ : ByteArray) ++ t214) ++ (⟨#[59]⟩ : ByteArray)) ++ t215) ++ (⟨#[59]⟩ : ByteArray)) ++ t216) ++ (⟨#[82]⟩ : ByteArray))) else (none)) else (none))) else (none)) else (none))) else (none)) else (none)) = some r := H
            have A17 := Aside0.mk A170
            clear A170
            by_cases c18 : 3 + t214.size ≤ 9223372036854775807
            · rw [if_pos c18] at H
              have c18b0 := eq_true c18
              have c18b1 : decide (3 + t214.size ≤ 9223372036854775807) = true := decide_eq_true c18
              try have c18b2 : (9223372036854775807 < 3 + t214.size) = False := eq_false (Nat.not_lt.2 c18)
              by_cases c19 : 3 + t214.size + 1 ≤ 9223372036854775807
              · rw [if_pos c19] at H
                have c19b0 := eq_true c19
                have c19b1 : decide (3 + t214.size + 1 ≤ 9223372036854775807) = true := decide_eq_true c19
                try have c19b2 : (9223372036854775807 < 3 + t214.size + 1) = False := eq_false (Nat.not_lt.2 c19)
                replace H := Option.bind_eq_some_iff.mp H
                obtain ⟨t215, A200, H⟩ := H
                replace H : (if 3 + t214.size + 1 + t215.size ≤ 9223372036854775807 then (if 3 + t214.size + 1 + t215.size + 1 ≤ 9223372036854775807 then ((strconv_Itoa.f a2).bind fun t216 => (if 3 + t214.size + 1 + t215.size + 1 + t216.size ≤ 9223372036854775807 then (if 3 + t214.size + 1 + t215.size + 1 + t216.size + 1 ≤ 9223372036854775807 then (some (((((((⟨#[27, 91, 63]⟩ : ByteArray) ++ t214) ++ (⟨#[59]⟩ : ByteArray)) ++ t215) ++ (⟨#[59]⟩ : ByteArray)) ++ t216) ++ (⟨#[82]⟩ : ByteArray))) else (none)) else (none))) else (none)) else (none)) = some r := H
                have A20 := Aside0.mk A200
                clear A200
                by_cases c21 : 3 + t214.size + 1 + t215.size ≤ 9223372036854775807
                · rw [if_pos c21] at H
                  have c21b0 := eq_true c21
                  have c21b1 : decide (3 + t214.size + 1 + t215.size ≤ 9223372036854775807) = true := decide_eq_true c21
                  try have c21b2 : (9223372036854775807 < 3 + t214.size + 1 + t215.size) = False := eq_false (Nat.not_lt.2 c21)
                  by_cases c22 : 3 + t214.size + 1 + t215.size + 1 ≤ 9223372036854775807
                  · rw [if_pos c22] at H
                    have c22b0 := eq_true c22
                    have c22b1 : decide (3 + t214.size + 1 + t215.size + 1 ≤ 9223372036854775807) = true := decide_eq_true c22
                    try have c22b2 : (9223372036854775807 < 3 + t214.size + 1 + t215.size + 1) = False := eq_false (Nat.not_lt.2 c22)
                    replace H := Option.bind_eq_some_iff.mp H
                    obtain ⟨t216, A230, H⟩ := H
                    replace H : (if 3 + t214.size + 1 + t215.size + 1 + t216.size ≤ 9223372036854775807 then (if 3 + t214.size + 1 + t215.size + 1 + t216.size + 1 ≤ 9223372036854775807 then (some (((((((⟨#[27, 91, 63]⟩ : ByteArray) ++ t214) ++ (⟨#[59]⟩ : ByteArray)) ++ t215) ++ (⟨#[59]⟩ : ByteArray)) ++ t216) ++ (⟨#[82]⟩ : ByteArray))) else (none)) else (none)) = some r := H
                    have A23 := Aside0.mk A230
                    clear A230
                    by_cases c24 : 3 + t214.size + 1 + t215.size + 1 + t216.size ≤ 9223372036854775807
                    · rw [if_pos c24] at H
                      have c24b0 := eq_true c24
                      have c24b1 : decide (3 + t214.size + 1 + t215.size + 1 + t216.size ≤ 9223372036854775807) = true := decide_eq_true c24
                      try have c24b2 : (9223372036854775807 < 3 + t214.size + 1 + t215.size + 1 + t216.size) = False := eq_false (Nat.not_lt.2 c24)
                      by_cases c25 : 3 + t214.size + 1 + t215.size + 1 + t216.size + 1 ≤ 9223372036854775807
                      · rw [if_pos c25] at H
                        have c25b0 := eq_true c25
                        have c25b1 : decide (3 + t214.size + 1 + t215.size + 1 + t216.size + 1 ≤ 9223372036854775807) = true := decide_eq_true c25
                        try have c25b2 : (9223372036854775807 < 3 + t214.size + 1 + t215.size + 1 + t216.size + 1) = False := eq_false (Nat.not_lt.2 c25)
                        obtain rfl := Option.some.inj H
                        go_wp2_with (first | ((with_reducible refine gate_callee (f := 109) rfl ?_); refine goesL_ (some 22) rfl rfl Tryd.func109 (by kernel_rfl) rfl #[.int .i64 x0_3] rfl (by (try simp only [List.map_toArray, List.map_cons, List.map_nil]); first | done | rfl | (simp only [List.length_drop, List.length_take]; rfl) | (simp [Act.eval, *]; done)) ?_; (with_reducible refine (strconv_Itoa.calls x0_3 t214 _ ?side1 A17.out).mono ?_); (case side1 => exact HLD.out.below (by repeat (first | (with_reducible first | exact HB.out | apply below_alloc | apply Ext.below_bytes | apply pw_below_drewN | apply below_drew1) | exact HB.out))); rintro e w26 ⟨rfl, hb⟩; refine ⟨_, rfl, ?_⟩; have n0_ := Aside0.mk (below_step (by repeat (first | (with_reducible first | exact HB.out | apply below_alloc | apply Ext.below_bytes | apply pw_below_drewN | apply below_drew1) | exact HB.out)) hb); clear HB; have HB := n0_; clear n0_; (try clear hb); (try clear hb2); (try clear hk); (try clear hi)) | ((with_reducible refine gate_callee (f := 109) rfl ?_); refine goesL_ (some 26) rfl rfl Tryd.func109 (by kernel_rfl) rfl #[.int .i64 x1_5] rfl (by (try simp only [List.map_toArray, List.map_cons, List.map_nil]); first | done | rfl | (simp only [List.length_drop, List.length_take]; rfl) | (simp [Act.eval, *]; done)) ?_; (with_reducible refine (strconv_Itoa.calls x1_5 t215 _ ?side1 A20.out).mono ?_); (case side1 => exact HLD.out.below (by repeat (first | (with_reducible first | exact HB.out | apply below_alloc | apply Ext.below_bytes | apply pw_below_drewN | apply below_drew1) | exact HB.out))); rintro e w27 ⟨rfl, hb⟩; refine ⟨_, rfl, ?_⟩; have n0_ := Aside0.mk (below_step (by repeat (first | (with_reducible first | exact HB.out | apply below_alloc | apply Ext.below_bytes | apply pw_below_drewN | apply below_drew1) | exact HB.out)) hb); clear HB; have HB := n0_; clear n0_; (try clear hb); (try clear hb2); (try clear hk); (try clear hi)) | ((with_reducible refine gate_callee (f := 109) rfl ?_); refine goesL_ (some 30) rfl rfl Tryd.func109 (by kernel_rfl) rfl #[.int .i64 a2] rfl (by (try simp only [List.map_toArray, List.map_cons, List.map_nil]); first | done | rfl | (simp only [List.length_drop, List.length_take]; rfl) | (simp [Act.eval, *]; done)) ?_; (with_reducible refine (strconv_Itoa.calls a2 t216 _ ?side1 A23.out).mono ?_); (case side1 => exact HLD.out.below (by repeat (first | (with_reducible first | exact HB.out | apply below_alloc | apply Ext.below_bytes | apply pw_below_drewN | apply below_drew1) | exact HB.out))); rintro e w28 ⟨rfl, hb⟩; refine ⟨_, rfl, ?_⟩; have n0_ := Aside0.mk (below_step (by repeat (first | (with_reducible first | exact HB.out | apply below_alloc | apply Ext.below_bytes | apply pw_below_drewN | apply below_drew1) | exact HB.out)) hb); clear HB; have HB := n0_; clear n0_; (try clear hb); (try clear hb2); (try clear hk); (try clear hi)))
                        go_ret
                        exact ⟨by first | rfl | (simp [errW_none, errW_some] <;> rfl) | (simp [*, errW_none, errW_some] <;> rfl), by repeat (first | (with_reducible first | exact HB.out | apply below_alloc | apply Ext.below_bytes | apply pw_below_drewN | apply below_drew1) | exact HB.out)⟩
                      · rw [if_neg c25] at H
                        exact absurd H (by simp)
                    · rw [if_neg c24] at H
                      exact absurd H (by simp)
                  · rw [if_neg c22] at H
                    exact absurd H (by simp)
                · rw [if_neg c21] at H
                  exact absurd H (by simp)
              · rw [if_neg c19] at H
                exact absurd H (by simp)
            · rw [if_neg c18] at H
              exact absurd H (by simp)

/-! ### xansi_InBandResize: function 92 -/
mutual
def xansi_InBandResize.j0 : Nat → Int → Int → Int → Int → Option (ByteArray)
  | 0, _, _, _, _ => none
  | k + 1, x0, x1, x2, x3 => if x1 < 0 then (xansi_InBandResize.j1 k x0 0 x2 x3) else (xansi_InBandResize.j1 k x0 x1 x2 x3)
def xansi_InBandResize.j1 : Nat → Int → Int → Int → Int → Option (ByteArray)
  | 0, _, _, _, _ => none
  | k + 1, x0, x1, x2, x3 => if x2 < 0 then (xansi_InBandResize.j2 k x0 x1 0 x3) else (xansi_InBandResize.j2 k x0 x1 x2 x3)
def xansi_InBandResize.j2 : Nat → Int → Int → Int → Int → Option (ByteArray)
  | 0, _, _, _, _ => none
  | k + 1, x0, x1, x2, x3 => if x3 < 0 then (xansi_InBandResize.j3 k x0 x1 x2 0) else (xansi_InBandResize.j3 k x0 x1 x2 x3)
def xansi_InBandResize.j3 : Nat → Int → Int → Int → Int → Option (ByteArray)
  | 0, _, _, _, _ => none
  | k + 1, x0, x1, x2, x3 => (strconv_Itoa.f x0).bind fun t217 => (if 5 + t217.size ≤ 9223372036854775807 then (if 5 + t217.size + 1 ≤ 9223372036854775807 then ((strconv_Itoa.f x1).bind fun t218 => (if 5 + t217.size + 1 + t218.size ≤ 9223372036854775807 then (if 5 + t217.size + 1 + t218.size + 1 ≤ 9223372036854775807 then ((strconv_Itoa.f x2).bind fun t219 => (if 5 + t217.size + 1 + t218.size + 1 + t219.size ≤ 9223372036854775807 then (if 5 + t217.size + 1 + t218.size + 1 + t219.size + 1 ≤ 9223372036854775807 then ((strconv_Itoa.f x3).bind fun t220 => (if 5 + t217.size + 1 + t218.size + 1 + t219.size + 1 + t220.size ≤ 9223372036854775807 then (if 5 + t217.size + 1 + t218.size + 1 + t219.size + 1 + t220.size + 1 ≤ 9223372036854775807 then (some (((((((((⟨#[27, 91, 52, 56, 59]⟩ : ByteArray) ++ t217) ++ (⟨#[59]⟩ : ByteArray)) ++ t218) ++ (⟨#[59]⟩ : ByteArray)) ++ t219) ++ (⟨#[59]⟩ : ByteArray)) ++ t220) ++ (⟨#[116]⟩ : ByteArray))) else (none)) else (none))) else (none)) else (none))) else (none)) else (none))) else (none)) else (none))
end
def xansi_InBandResize.f (k : Nat) (a0 : Int) (a1 : Int) (a2 : Int) (a3 : Int) : Option (ByteArray) := if a0 < 0 then (xansi_InBandResize.j0 k 0 a1 a2 a3) else (xansi_InBandResize.j0 k a0 a1 a2 a3)
theorem xansi_InBandResize.mono_l : ∀ k, (∀ y0 y1 y2 y3, LeO (xansi_InBandResize.j0 k y0 y1 y2 y3) (xansi_InBandResize.j0 (k + 1) y0 y1 y2 y3)) ∧ (∀ y0 y1 y2 y3, LeO (xansi_InBandResize.j1 k y0 y1 y2 y3) (xansi_InBandResize.j1 (k + 1) y0 y1 y2 y3)) ∧ (∀ y0 y1 y2 y3, LeO (xansi_InBandResize.j2 k y0 y1 y2 y3) (xansi_InBandResize.j2 (k + 1) y0 y1 y2 y3)) ∧ (∀ y0 y1 y2 y3, LeO (xansi_InBandResize.j3 k y0 y1 y2 y3) (xansi_InBandResize.j3 (k + 1) y0 y1 y2 y3))
  | 0 => ⟨fun _ _ _ _ r h => by simp [xansi_InBandResize.j0] at h, fun _ _ _ _ r h => by simp [xansi_InBandResize.j1] at h, fun _ _ _ _ r h => by simp [xansi_InBandResize.j2] at h, fun _ _ _ _ r h => by simp [xansi_InBandResize.j3] at h⟩
  | k + 1 => by
    obtain ⟨ih0, ih1, ih2, ih3⟩ := xansi_InBandResize.mono_l k
    refine ⟨?_, ?_, ?_, ?_⟩
    · intro y0 y1 y2 y3
      unfold xansi_InBandResize.j0
      repeat' first
      | (with_reducible exact ih0 _ _ _ _)
      | (with_reducible exact ih1 _ _ _ _)
      | (with_reducible exact ih2 _ _ _ _)
      | (with_reducible exact ih3 _ _ _ _)
      | (with_reducible exact LeO.refl _)
      | (with_reducible exact LeO.none _)
      | (with_reducible refine LeO.ite ?_ ?_)
      | (with_reducible refine LeO.bind ?_ (fun _ => ?_))
      | exact ih0 _ _ _ _
      | exact ih1 _ _ _ _
      | exact ih2 _ _ _ _
      | exact ih3 _ _ _ _
      | exact LeO.none _
      | refine LeO.ite ?_ ?_
      | refine LeO.bind ?_ (fun _ => ?_)
    · intro y0 y1 y2 y3
      unfold xansi_InBandResize.j1
      repeat' first
      | (with_reducible exact ih0 _ _ _ _)
      | (with_reducible exact ih1 _ _ _ _)
      | (with_reducible exact ih2 _ _ _ _)
      | (with_reducible exact ih3 _ _ _ _)
      | (with_reducible exact LeO.refl _)
      | (with_reducible exact LeO.none _)
      | (with_reducible refine LeO.ite ?_ ?_)
      | (with_reducible refine LeO.bind ?_ (fun _ => ?_))
      | exact ih0 _ _ _ _
      | exact ih1 _ _ _ _
      | exact ih2 _ _ _ _
      | exact ih3 _ _ _ _
      | exact LeO.none _
      | refine LeO.ite ?_ ?_
      | refine LeO.bind ?_ (fun _ => ?_)
    · intro y0 y1 y2 y3
      unfold xansi_InBandResize.j2
      repeat' first
      | (with_reducible exact ih0 _ _ _ _)
      | (with_reducible exact ih1 _ _ _ _)
      | (with_reducible exact ih2 _ _ _ _)
      | (with_reducible exact ih3 _ _ _ _)
      | (with_reducible exact LeO.refl _)
      | (with_reducible exact LeO.none _)
      | (with_reducible refine LeO.ite ?_ ?_)
      | (with_reducible refine LeO.bind ?_ (fun _ => ?_))
      | exact ih0 _ _ _ _
      | exact ih1 _ _ _ _
      | exact ih2 _ _ _ _
      | exact ih3 _ _ _ _
      | exact LeO.none _
      | refine LeO.ite ?_ ?_
      | refine LeO.bind ?_ (fun _ => ?_)
    · intro y0 y1 y2 y3
      unfold xansi_InBandResize.j3
      repeat' first
      | (with_reducible exact ih0 _ _ _ _)
      | (with_reducible exact ih1 _ _ _ _)
      | (with_reducible exact ih2 _ _ _ _)
      | (with_reducible exact ih3 _ _ _ _)
      | (with_reducible exact LeO.refl _)
      | (with_reducible exact LeO.none _)
      | (with_reducible refine LeO.ite ?_ ?_)
      | (with_reducible refine LeO.bind ?_ (fun _ => ?_))
      | exact ih0 _ _ _ _
      | exact ih1 _ _ _ _
      | exact ih2 _ _ _ _
      | exact ih3 _ _ _ _
      | exact LeO.none _
      | refine LeO.ite ?_ ?_
      | refine LeO.bind ?_ (fun _ => ?_)
theorem xansi_InBandResize.mono : ∀ a0 a1 a2 a3 k, LeO (xansi_InBandResize.f k a0 a1 a2 a3) (xansi_InBandResize.f (k + 1) a0 a1 a2 a3) := by
  intro a0 a1 a2 a3 k
  obtain ⟨ih0, ih1, ih2, ih3⟩ := xansi_InBandResize.mono_l k
  unfold xansi_InBandResize.f
  repeat' first
      | (with_reducible exact ih0 _ _ _ _)
      | (with_reducible exact ih1 _ _ _ _)
      | (with_reducible exact ih2 _ _ _ _)
      | (with_reducible exact ih3 _ _ _ _)
      | (with_reducible exact LeO.refl _)
      | (with_reducible exact LeO.none _)
      | (with_reducible refine LeO.ite ?_ ?_)
      | (with_reducible refine LeO.bind ?_ (fun _ => ?_))
      | exact ih0 _ _ _ _
      | exact ih1 _ _ _ _
      | exact ih2 _ _ _ _
      | exact ih3 _ _ _ _
      | exact LeO.none _
      | refine LeO.ite ?_ ?_
      | refine LeO.bind ?_ (fun _ => ?_)
set_option maxHeartbeats 8000000 in
set_option maxRecDepth 100000 in
theorem xansi_InBandResize.calls (k : Nat) (a0 : Int) (a1 : Int) (a2 : Int) (a3 : Int) (r : ByteArray) (w : World) (hLD : Laid w) (h : xansi_InBandResize.f k a0 a1 a2 a3 = some r) :
    Calls Tryd.prog 92 #[.int .i64 a0, .int .i64 a1, .int .i64 a2, .int .i64 a3] w fun e w' => e = .returned (.string r) ∧ Below w.heap.size w w' := by
  have HLD := Aside0.mk hLD
  clear hLD
  have HB := Aside0.mk (Below.refl w.heap.size w)
  have H : (if a0 < 0 then (xansi_InBandResize.j0 k 0 a1 a2 a3) else (xansi_InBandResize.j0 k a0 a1 a2 a3)) = some r := h
  clear h
  have HC5 := Aside0.mk H
  clear H
  go_enter Tryd.func92, Tryd.ntmps92
  go_upto_if 10 with (fail)
  go_cut [0] (fun v0 wc => ∃ (kq : Nat) (x0_4 : Int), v0 = .int .i64 x0_4 ∧ Aside0 (xansi_InBandResize.j0 kq x0_4 a1 a2 a3 = some r) ∧ Aside0 (kq ≤ k) ∧ Aside0 (Below w.heap.size w wc))
  case first =>
    have H := HC5.out
    clear HC5
    by_cases c6 : a0 < 0
    · rw [if_pos c6] at H
      have c6b0 : decide (a0 < 0) = true := decide_eq_true c6
      clear c6
      (first | rw [c6b0] | (simp only [i64_w, i32_w]; rw [c6b0]) | skip)
      have H' := Aside0.mk H
      clear H
      go_wp2
      go_meet
      case rel => exact ⟨_, (0), (by first | rfl | (simp; done) | (simp [*]; done)), H', ⟨by first | omega | exact Nat.le_refl _⟩, ⟨by repeat (first | (with_reducible first | exact HB.out | apply below_alloc | apply Ext.below_bytes | apply pw_below_drewN | apply below_drew1) | exact HB.out)⟩⟩
    · rw [if_neg c6] at H
      have c6b0 : decide (a0 < 0) = false := decide_eq_false c6
      clear c6
      (first | rw [c6b0] | (simp only [i64_w, i32_w]; rw [c6b0]) | skip)
      have H' := Aside0.mk H
      clear H
      go_wp2
      go_meet
      case rel => exact ⟨_, (a0), (by first | rfl | (simp; done) | (simp [*]; done)), H', ⟨by first | omega | exact Nat.le_refl _⟩, ⟨by repeat (first | (with_reducible first | exact HB.out | apply below_alloc | apply Ext.below_bytes | apply pw_below_drewN | apply below_drew1) | exact HB.out)⟩⟩
  case rest =>
    clear HC5
    try clear p2
    try clear c6
    try clear c6b0
    obtain ⟨kq, x0_4, rfl, HA, HJ4, HB⟩ := hcut
    cases kq with
    | zero => exact absurd HA.out (by simp [xansi_InBandResize.j0])
    | succ kj4 =>
      have H := HA.out
      clear HA
      simp only [xansi_InBandResize.j0] at H
      have HC7 := Aside0.mk H
      clear H
      go_upto_if 12 with (fail)
      go_cut [1] (fun v1 wc => ∃ (kq : Nat) (x1_6 : Int), v1 = .int .i64 x1_6 ∧ Aside0 (xansi_InBandResize.j1 kq x0_4 x1_6 a2 a3 = some r) ∧ Aside0 (kq ≤ kj4) ∧ Aside0 (Below w.heap.size w wc))
      case first =>
        have H := HC7.out
        clear HC7
        by_cases c8 : a1 < 0
        · rw [if_pos c8] at H
          have c8b0 : decide (a1 < 0) = true := decide_eq_true c8
          clear c8
          (first | rw [c8b0] | (simp only [i64_w, i32_w]; rw [c8b0]) | skip)
          have H' := Aside0.mk H
          clear H
          go_wp2
          go_meet
          case rel => exact ⟨_, (0), (by first | rfl | (simp; done) | (simp [*]; done)), H', ⟨by have := HJ4.out; first | omega | exact Nat.le_refl _⟩, ⟨by repeat (first | (with_reducible first | exact HB.out | apply below_alloc | apply Ext.below_bytes | apply pw_below_drewN | apply below_drew1) | exact HB.out)⟩⟩
        · rw [if_neg c8] at H
          have c8b0 : decide (a1 < 0) = false := decide_eq_false c8
          clear c8
          (first | rw [c8b0] | (simp only [i64_w, i32_w]; rw [c8b0]) | skip)
          have H' := Aside0.mk H
          clear H
          go_wp2
          go_meet
          case rel => exact ⟨_, (a1), (by first | rfl | (simp; done) | (simp [*]; done)), H', ⟨by have := HJ4.out; first | omega | exact Nat.le_refl _⟩, ⟨by repeat (first | (with_reducible first | exact HB.out | apply below_alloc | apply Ext.below_bytes | apply pw_below_drewN | apply below_drew1) | exact HB.out)⟩⟩
      case rest =>
        clear HC7
        try clear p2
        try clear c6
        try clear c6b0
        try clear c8
        try clear c8b0
        try clear p2
        obtain ⟨kq, x1_6, rfl, HA, HJ6, HB⟩ := hcut
        cases kq with
        | zero => exact absurd HA.out (by simp [xansi_InBandResize.j1])
        | succ kj6 =>
          have H := HA.out
          clear HA
          simp only [xansi_InBandResize.j1] at H
          have HC9 := Aside0.mk H
          clear H
          go_upto_if 14 with (fail)
          go_cut [2] (fun v2 wc => ∃ (kq : Nat) (x2_8 : Int), v2 = .int .i64 x2_8 ∧ Aside0 (xansi_InBandResize.j2 kq x0_4 x1_6 x2_8 a3 = some r) ∧ Aside0 (kq ≤ kj6) ∧ Aside0 (Below w.heap.size w wc))
          case first =>
            have H := HC9.out
            clear HC9
            by_cases c10 : a2 < 0
            · rw [if_pos c10] at H
              have c10b0 : decide (a2 < 0) = true := decide_eq_true c10
              clear c10
              (first | rw [c10b0] | (simp only [i64_w, i32_w]; rw [c10b0]) | skip)
              have H' := Aside0.mk H
              clear H
              go_wp2
              go_meet
              case rel => exact ⟨_, (0), (by first | rfl | (simp; done) | (simp [*]; done)), H', ⟨by have := HJ4.out; have := HJ6.out; first | omega | exact Nat.le_refl _⟩, ⟨by repeat (first | (with_reducible first | exact HB.out | apply below_alloc | apply Ext.below_bytes | apply pw_below_drewN | apply below_drew1) | exact HB.out)⟩⟩
            · rw [if_neg c10] at H
              have c10b0 : decide (a2 < 0) = false := decide_eq_false c10
              clear c10
              (first | rw [c10b0] | (simp only [i64_w, i32_w]; rw [c10b0]) | skip)
              have H' := Aside0.mk H
              clear H
              go_wp2
              go_meet
              case rel => exact ⟨_, (a2), (by first | rfl | (simp; done) | (simp [*]; done)), H', ⟨by have := HJ4.out; have := HJ6.out; first | omega | exact Nat.le_refl _⟩, ⟨by repeat (first | (with_reducible first | exact HB.out | apply below_alloc | apply Ext.below_bytes | apply pw_below_drewN | apply below_drew1) | exact HB.out)⟩⟩
          case rest =>
            clear HC9
            try clear c1
            try clear p2
            try clear c6
            try clear c6b0
            try clear c8
            try clear c8b0
            try clear c9
            try clear c10
            try clear c10b0
            try clear p2
            obtain ⟨kq, x2_8, rfl, HA, HJ8, HB⟩ := hcut
            cases kq with
            | zero => exact absurd HA.out (by simp [xansi_InBandResize.j2])
            | succ kj8 =>
              have H := HA.out
              clear HA
              simp only [xansi_InBandResize.j2] at H
              have HC11 := Aside0.mk H
              clear H
              go_upto_if 16 with (fail)
              go_cut [3] (fun v3 wc => ∃ (kq : Nat) (x3_10 : Int), v3 = .int .i64 x3_10 ∧ Aside0 (xansi_InBandResize.j3 kq x0_4 x1_6 x2_8 x3_10 = some r) ∧ Aside0 (kq ≤ kj8) ∧ Aside0 (Below w.heap.size w wc))
              case first =>
                have H := HC11.out
                clear HC11
                by_cases c12 : a3 < 0
                · rw [if_pos c12] at H
                  have c12b0 : decide (a3 < 0) = true := decide_eq_true c12
                  clear c12
                  (first | rw [c12b0] | (simp only [i64_w, i32_w]; rw [c12b0]) | skip)
                  have H' := Aside0.mk H
                  clear H
                  go_wp2
                  go_meet
                  case rel => exact ⟨_, (0), (by first | rfl | (simp; done) | (simp [*]; done)), H', ⟨by have := HJ4.out; have := HJ6.out; have := HJ8.out; first | omega | exact Nat.le_refl _⟩, ⟨by repeat (first | (with_reducible first | exact HB.out | apply below_alloc | apply Ext.below_bytes | apply pw_below_drewN | apply below_drew1) | exact HB.out)⟩⟩
                · rw [if_neg c12] at H
                  have c12b0 : decide (a3 < 0) = false := decide_eq_false c12
                  clear c12
                  (first | rw [c12b0] | (simp only [i64_w, i32_w]; rw [c12b0]) | skip)
                  have H' := Aside0.mk H
                  clear H
                  go_wp2
                  go_meet
                  case rel => exact ⟨_, (a3), (by first | rfl | (simp; done) | (simp [*]; done)), H', ⟨by have := HJ4.out; have := HJ6.out; have := HJ8.out; first | omega | exact Nat.le_refl _⟩, ⟨by repeat (first | (with_reducible first | exact HB.out | apply below_alloc | apply Ext.below_bytes | apply pw_below_drewN | apply below_drew1) | exact HB.out)⟩⟩
              case rest =>
                clear HC11
                try clear c1
                try clear p2
                try clear c6
                try clear c6b0
                try clear c8
                try clear c8b0
                try clear c9
                try clear c10
                try clear c10b0
                try clear c12
                try clear c12b0
                try clear p2
                obtain ⟨kq, x3_10, rfl, HA, HJ10, HB⟩ := hcut
                cases kq with
                | zero => exact absurd HA.out (by simp [xansi_InBandResize.j3])
                | succ kj10 =>
                  have H := HA.out
                  clear HA
                  simp only [xansi_InBandResize.j3] at H
                  replace H := Option.bind_eq_some_iff.mp H
                  obtain ⟨t217, A130, H⟩ := H
                  replace H : (if 5 + t217.size ≤ 9223372036854775807 then (if 5 + t217.size + 1 ≤ 9223372036854775807 then ((strconv_Itoa.f x1_6).bind fun t218 => (if 5 + t217.size + 1 + t218.size ≤ 9223372036854775807 then (if 5 + t217.size + 1 + t218.size + 1 ≤ 9223372036854775807 then ((strconv_Itoa.f x2_8).bind fun t219 => (if 5 + t217.size + 1 + t218.size + 1 + t219.size ≤ 9223372036854775807 then (if 5 + t217.size + 1 + t218.size + 1 + t219.size + 1 ≤ 9223372036854775807 then ((strconv_Itoa.f x3_10).bind fun t220 => (if 5 + t217.size + 1 + t218.size + 1 + t219.size + 1 + t220.size ≤ 9223372036854775807 then (if 5 + t217.size + 1 + t218.size + 1 + t219.size + 1 + t220.size + 1 ≤ 9223372036854775807 then (some (((((((((⟨#[27, 91, 52, 56, 59]⟩ : ByteArray) ++ t217) ++ (⟨#[59]⟩ : ByteArray)) ++ t218) ++ (⟨#[59]⟩ : ByteArray)) ++ t219) ++ (⟨#[59]⟩ : ByteArray)) ++ t220) ++ (⟨#[116]⟩ : ByteArray))) else (none)) else (none))) else (none)) else (none))) else (none)) else (none))) else (none)) else (none)) = some r := H
                  have A13 := Aside0.mk A130
                  clear A130
                  by_cases c14 : 5 + t217.size ≤ 9223372036854775807
                  · rw [if_pos c14] at H
                    have c14b0 := eq_true c14
                    have c14b1 : decide (5 + t217.size ≤ 9223372036854775807) = true := decide_eq_true c14
                    try have c14b2 : (9223372036854775807 < 5 + t217.size) = False := eq_false (Nat.not_lt.2 c14)
                    by_cases c15 : 5 + t217.size + 1 ≤ 9223372036854775807
                    · rw [if_pos c15] at H
                      have c15b0 := eq_true c15
                      have c15b1 : decide (5 + t217.size + 1 ≤ 9223372036854775807) = true := decide_eq_true c15
                      try have c15b2 : (9223372036854775807 < 5 + t217.size + 1) = False := eq_false (Nat.not_lt.2 c15)
                      replace H := Option.bind_eq_some_iff.mp H
                      obtain ⟨t218, A160, H⟩ := H
                      replace H : (if 5 + t217.size + 1 + t218.size ≤ 9223372036854775807 then (if 5 + t217.size + 1 + t218.size + 1 ≤ 9223372036854775807 then ((strconv_Itoa.f x2_8).bind fun t219 => (if 5 + t217.size + 1 + t218.size + 1 + t219.size ≤ 9223372036854775807 then (if 5 + t217.size + 1 + t218.size + 1 + t219.size + 1 ≤ 9223372036854775807 then ((strconv_Itoa.f x3_10).bind fun t220 => (if 5 + t217.size + 1 + t218.size + 1 + t219.size + 1 + t220.size ≤ 9223372036854775807 then (if 5 + t217.size + 1 + t218.size + 1 + t219.size + 1 + t220.size + 1 ≤ 9223372036854775807 then (some (((((((((⟨#[27, 91, 52, 56, 59]⟩ : ByteArray) ++ t217) ++ (⟨#[59]⟩ : ByteArray)) ++ t218) ++ (⟨#[59]⟩ : ByteArray)) ++ t219) ++ (⟨#[59]⟩ : ByteArray)) ++ t220) ++ (⟨#[116]⟩ : ByteArray))) else (none)) else (none))) else (none)) else (none))) else (none)) else (none)) = some r := H
                      have A16 := Aside0.mk A160
                      clear A160
                      by_cases c17 : 5 + t217.size + 1 + t218.size ≤ 9223372036854775807
                      · rw [if_pos c17] at H
                        have c17b0 := eq_true c17
                        have c17b1 : decide (5 + t217.size + 1 + t218.size ≤ 9223372036854775807) = true := decide_eq_true c17
                        try have c17b2 : (9223372036854775807 < 5 + t217.size + 1 + t218.size) = False := eq_false (Nat.not_lt.2 c17)
                        by_cases c18 : 5 + t217.size + 1 + t218.size + 1 ≤ 9223372036854775807
                        · rw [if_pos c18] at H
                          have c18b0 := eq_true c18
                          have c18b1 : decide (5 + t217.size + 1 + t218.size + 1 ≤ 9223372036854775807) = true := decide_eq_true c18
                          try have c18b2 : (9223372036854775807 < 5 + t217.size + 1 + t218.size + 1) = False := eq_false (Nat.not_lt.2 c18)
                          replace H := Option.bind_eq_some_iff.mp H
                          obtain ⟨t219, A190, H⟩ := H
                          replace H : (if 5 + t217.size + 1 + t218.size + 1 + t219.size ≤ 9223372036854775807 then (if 5 + t217.size + 1 + t218.size + 1 + t219.size + 1 ≤ 9223372036854775807 then ((strconv_Itoa.f x3_10).bind fun t220 => (if 5 + t217.size + 1 + t218.size + 1 + t219.size + 1 + t220.size ≤ 9223372036854775807 then (if 5 + t217.size + 1 + t218.size + 1 + t219.size + 1 + t220.size + 1 ≤ 9223372036854775807 then (some (((((((((⟨#[27, 91, 52, 56, 59]⟩ : ByteArray) ++ t217) ++ (⟨#[59]⟩ : ByteArray)) ++ t218) ++ (⟨#[59]⟩ : ByteArray)) ++ t219) ++ (⟨#[59]⟩ : ByteArray)) ++ t220) ++ (⟨#[116]⟩ : ByteArray))) else (none)) else (none))) else (none)) else (none)) = some r := H
                          have A19 := Aside0.mk A190
                          clear A190
                          by_cases c20 : 5 + t217.size + 1 + t218.size + 1 + t219.size ≤ 9223372036854775807
                          · rw [if_pos c20] at H
                            have c20b0 := eq_true c20
                            have c20b1 : decide (5 + t217.size + 1 + t218.size + 1 + t219.size ≤ 9223372036854775807) = true := decide_eq_true c20
                            try have c20b2 : (9223372036854775807 < 5 + t217.size + 1 + t218.size + 1 + t219.size) = False := eq_false (Nat.not_lt.2 c20)
                            by_cases c21 : 5 + t217.size + 1 + t218.size + 1 + t219.size + 1 ≤ 9223372036854775807
                            · rw [if_pos c21] at H
                              have c21b0 := eq_true c21
                              have c21b1 : decide (5 + t217.size + 1 + t218.size + 1 + t219.size + 1 ≤ 9223372036854775807) = true := decide_eq_true c21
                              try have c21b2 : (9223372036854775807 < 5 + t217.size + 1 + t218.size + 1 + t219.size + 1) = False := eq_false (Nat.not_lt.2 c21)
                              replace H := Option.bind_eq_some_iff.mp H
                              obtain ⟨t220, A220, H⟩ := H
                              replace H : (if 5 + t217.size + 1 + t218.size + 1 + t219.size + 1 + t220.size ≤ 9223372036854775807 then (if 5 + t217.size + 1 + t218.size + 1 + t219.size + 1 + t220.size + 1 ≤ 9223372036854775807 then (some (((((((((⟨#[27, 91, 52, 56, 59]⟩ : ByteArray) ++ t217) ++ (⟨#[59]⟩ : ByteArray)) ++ t218) ++ (⟨#[59]⟩ : ByteArray)) ++ t219) ++ (⟨#[59]⟩ : ByteArray)) ++ t220) ++ (⟨#[116]⟩ : ByteArray))) else (none)) else (none)) = some r := H
                              have A22 := Aside0.mk A220
                              clear A220
                              by_cases c23 : 5 + t217.size + 1 + t218.size + 1 + t219.size + 1 + t220.size ≤ 9223372036854775807
                              · rw [if_pos c23] at H
                                have c23b0 := eq_true c23
                                have c23b1 : decide (5 + t217.size + 1 + t218.size + 1 + t219.size + 1 + t220.size ≤ 9223372036854775807) = true := decide_eq_true c23
                                try have c23b2 : (9223372036854775807 < 5 + t217.size + 1 + t218.size + 1 + t219.size + 1 + t220.size) = False := eq_false (Nat.not_lt.2 c23)
                                by_cases c24 : 5 + t217.size + 1 + t218.size + 1 + t219.size + 1 + t220.size + 1 ≤ 9223372036854775807
                                · rw [if_pos c24] at H
                                  have c24b0 := eq_true c24
                                  have c24b1 : decide (5 + t217.size + 1 + t218.size + 1 + t219.size + 1 + t220.size + 1 ≤ 9223372036854775807) = true := decide_eq_true c24
                                  try have c24b2 : (9223372036854775807 < 5 + t217.size + 1 + t218.size + 1 + t219.size + 1 + t220.size + 1) = False := eq_false (Nat.not_lt.2 c24)
                                  obtain rfl := Option.some.inj H
                                  go_wp2_with (first | ((with_reducible refine gate_callee (f := 109) rfl ?_); refine goesL_ (some 18) rfl rfl Tryd.func109 (by kernel_rfl) rfl #[.int .i64 x0_4] rfl (by (try simp only [List.map_toArray, List.map_cons, List.map_nil]); first | done | rfl | (simp only [List.length_drop, List.length_take]; rfl) | (simp [Act.eval, *]; done)) ?_; (with_reducible refine (strconv_Itoa.calls x0_4 t217 _ ?side1 A13.out).mono ?_); (case side1 => exact HLD.out.below (by repeat (first | (with_reducible first | exact HB.out | apply below_alloc | apply Ext.below_bytes | apply pw_below_drewN | apply below_drew1) | exact HB.out))); rintro e w25 ⟨rfl, hb⟩; refine ⟨_, rfl, ?_⟩; have n0_ := Aside0.mk (below_step (by repeat (first | (with_reducible first | exact HB.out | apply below_alloc | apply Ext.below_bytes | apply pw_below_drewN | apply below_drew1) | exact HB.out)) hb); clear HB; have HB := n0_; clear n0_; (try clear hb); (try clear hb2); (try clear hk); (try clear hi)) | ((with_reducible refine gate_callee (f := 109) rfl ?_); refine goesL_ (some 22) rfl rfl Tryd.func109 (by kernel_rfl) rfl #[.int .i64 x1_6] rfl (by (try simp only [List.map_toArray, List.map_cons, List.map_nil]); first | done | rfl | (simp only [List.length_drop, List.length_take]; rfl) | (simp [Act.eval, *]; done)) ?_; (with_reducible refine (strconv_Itoa.calls x1_6 t218 _ ?side1 A16.out).mono ?_); (case side1 => exact HLD.out.below (by repeat (first | (with_reducible first | exact HB.out | apply below_alloc | apply Ext.below_bytes | apply pw_below_drewN | apply below_drew1) | exact HB.out))); rintro e w26 ⟨rfl, hb⟩; refine ⟨_, rfl, ?_⟩; have n0_ := Aside0.mk (below_step (by repeat (first | (with_reducible first | exact HB.out | apply below_alloc | apply Ext.below_bytes | apply pw_below_drewN | apply below_drew1) | exact HB.out)) hb); clear HB; have HB := n0_; clear n0_; (try clear hb); (try clear hb2); (try clear hk); (try clear hi)) | ((with_reducible refine gate_callee (f := 109) rfl ?_); refine goesL_ (some 26) rfl rfl Tryd.func109 (by kernel_rfl) rfl #[.int .i64 x2_8] rfl (by (try simp only [List.map_toArray, List.map_cons, List.map_nil]); first | done | rfl | (simp only [List.length_drop, List.length_take]; rfl) | (simp [Act.eval, *]; done)) ?_; (with_reducible refine (strconv_Itoa.calls x2_8 t219 _ ?side1 A19.out).mono ?_); (case side1 => exact HLD.out.below (by repeat (first | (with_reducible first | exact HB.out | apply below_alloc | apply Ext.below_bytes | apply pw_below_drewN | apply below_drew1) | exact HB.out))); rintro e w27 ⟨rfl, hb⟩; refine ⟨_, rfl, ?_⟩; have n0_ := Aside0.mk (below_step (by repeat (first | (with_reducible first | exact HB.out | apply below_alloc | apply Ext.below_bytes | apply pw_below_drewN | apply below_drew1) | exact HB.out)) hb); clear HB; have HB := n0_; clear n0_; (try clear hb); (try clear hb2); (try clear hk); (try clear hi)) | ((with_reducible refine gate_callee (f := 109) rfl ?_); refine goesL_ (some 30) rfl rfl Tryd.func109 (by kernel_rfl) rfl #[.int .i64 x3_10] rfl (by (try simp only [List.map_toArray, List.map_cons, List.map_nil]); first | done | rfl | (simp only [List.length_drop, List.length_take]; rfl) | (simp [Act.eval, *]; done)) ?_; (with_reducible refine (strconv_Itoa.calls x3_10 t220 _ ?side1 A22.out).mono ?_); (case side1 => exact HLD.out.below (by repeat (first | (with_reducible first | exact HB.out | apply below_alloc | apply Ext.below_bytes | apply pw_below_drewN | apply below_drew1) | exact HB.out))); rintro e w28 ⟨rfl, hb⟩; refine ⟨_, rfl, ?_⟩; have n0_ := Aside0.mk (below_step (by repeat (first | (with_reducible first | exact HB.out | apply below_alloc | apply Ext.below_bytes | apply pw_below_drewN | apply below_drew1) | exact HB.out)) hb); clear HB; have HB := n0_; clear n0_; (try clear hb); (try clear hb2); (try clear hk); (try clear hi)))
                                  go_ret
                                  exact ⟨by first | rfl | (simp [errW_none, errW_some] <;> rfl) | (simp [*, errW_none, errW_some] <;> rfl), by repeat (first | (with_reducible first | exact HB.out | apply below_alloc | apply Ext.below_bytes | apply pw_below_drewN | apply below_drew1) | exact HB.out)⟩
                                · rw [if_neg c24] at H
                                  exact absurd H (by simp)
                              · rw [if_neg c23] at H
                                exact absurd H (by simp)
                            · rw [if_neg c21] at H
                              exact absurd H (by simp)
                          · rw [if_neg c20] at H
                            exact absurd H (by simp)
                        · rw [if_neg c18] at H
                          exact absurd H (by simp)
                      · rw [if_neg c17] at H
                        exact absurd H (by simp)
                    · rw [if_neg c15] at H
                      exact absurd H (by simp)
                  · rw [if_neg c14] at H
                    exact absurd H (by simp)

end Go.Proofs.YtplmmblofhhikaaDoor.PM
